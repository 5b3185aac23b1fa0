/-
  The row of 'FnHeldByPutInAnywhere' out of the walks.
-/
import Derived.Test.Qxb6623471aMain
import Derived.ProofKit
import Derived.OpenShut
import Derived.ChangeOld
import Derived.Carry
import Derived.Deep.SlicePairs
import Derived.Lib.SmallJoins
namespace Go.Proofs.Qxb6623471a
open Go.ChangeShapes Go.WideShapes Go.ChangeAt Go.RowKit Go.Deep Go.Joins

theorem own : ownKnob Try.prog.godebug = none := by kernel_rfl
theorem laidOut : laidOutB Try.prog = true := by kernel_rfl
theorem Try.cells2 : Try.prog.cellsOf 2 = 1 := by kernel_rfl
theorem Try.cells24 : Try.prog.cellsOf 24 = 2 := by kernel_rfl

/-- the law, whatever the lengths -/
theorem walk (ao bo : Option Addr) (ab aoff bb boff na nb ca cb : Nat) (Qa Ua Qb Ub : Nat → Int) (q u g : Int) (la : na ≤ maxLen) (lb : nb ≤ maxLen) (w : World) (ha : Came w ao ab aoff na Qa Ua) (hb : Came w bo bb boff nb Qb Ub) :
    Calls Try.prog 3 #[.slice ao na ca, .agg #[.int .i64 q, .int .i64 u], .slice bo nb cb, .int .i64 g] w fun e w' => e = .returned (.bool true) ∧ Below w.heap.size w w' := by
  unfold maxLen at la lb
  by_cases h1 : na + nb ≤ 65536
  · exact law_main ao bo ab aoff bb boff na nb ca cb Qa Ua Qb Ub q u g h1 w ha hb
  · by_cases h2 : na + nb ≤ 1048576
    · exact law_mid ao bo na nb ca cb q u g h2 (by omega) w
    · exact law_far ao bo na nb ca cb q u g (by omega) la lb w

/-- a slice of pairs that came in, opened -/
theorem came_of {H : Type} {enc : TypeId × Value → H} {W : World} {a : Option Addr} {len cap : Nat} {d : DataW H} {p : List MemPlace}
    (h : DataW.Trod enc Try.prog W 0 (fun _ => true) true 22 (.slice a len cap) d p) : len ≤ maxLen ∧ ∃ b off Q U, Came W a b off len Q U := by
  obtain ⟨fuel, hf⟩ := h
  rcases open_slice_pairs Try.underlying22 Try.underlying24 Try.cells24 rfl rfl Try.cells2 Try.cells2 hf with ⟨hcs, _⟩ | ⟨x, l, c, m, n, V0, V1, D0, D1, P0, P1, hcs, _, hl, hm, hmm, _, hx⟩
  · simp [Value.cells] at hcs
    obtain ⟨rfl, rfl, rfl⟩ := hcs
    exact ⟨by omega, 0, 0, fun _ => 0, fun _ => 0, fun j hj => absurd hj (by omega)⟩
  · simp [Value.cells] at hcs
    obtain ⟨rfl, rfl, rfl⟩ := hcs
    simp only [if_true] at hmm
    refine ⟨by omega, ?_⟩
    have each : ∀ i, i < len → ∃ y : Int × Int, V0 i = .int .i64 y.1 ∧ V1 i = .int .i64 y.2 := by
      intro i hi
      obtain ⟨_, _, t0, t1⟩ := hx i (by omega)
      obtain ⟨n0, e0, _⟩ := DataW.trod_int Try.underlying2 t0
      obtain ⟨n1, e1, _⟩ := DataW.trod_int Try.underlying2 t1
      simp at e0 e1
      exact ⟨(n0, n1), e0, e1⟩
    obtain ⟨f, hf⟩ := choose_lt each
    refine ⟨x.block, x.off, fun j => (f j).1, fun j => (f j).2, fun j hj => ?_⟩
    obtain ⟨c0, c1, _⟩ := hx j (by omega)
    rw [(hf j hj).1] at c0
    rw [(hf j hj).2] at c1
    have c00 := (hx 0 (by omega)).1
    obtain ⟨b, off, spot⟩ := x
    have hspot : spot = none := by simpa [Addr.add] using World.cell?_spot c00
    subst hspot
    rw [add_plain] at c0 c1
    exact ⟨rfl, c0, by simpa [Nat.add_assoc] using c1⟩

set_option maxRecDepth 100000 in
theorem lifted (os : Os) (started : os.Started) (H : Type) (enc : TypeId × Value → H) :
    ReturnsInHanded {} Try.checked os 3 .any (Rows.fnHeldByPutInAnywhereSpec.pre6 enc Try.prog Try.f3 Rows.fnHeldByPutInAnywhereRow.domain false) (Rows.fnHeldByPutInAnywhereSpec.post enc Try.prog Try.f3 false true false false) := by
  refine returnsInHanded_of_change (C := Try.checked) own started (by kernel_rfl) Try.func3
    (ChangeSpec.witness6 (enc := enc) (C := Try.checked) false ⟨#[], #[.slice none 0 0, .agg #[.int .i64 0, .int .i64 0], .slice none 0 0, .int .i64 0], []⟩ 8 (by kernel_rfl) (by kernel_rfl) (by kernel_rfl) (by kernel_rfl)) ?_
  intro W base args ds gs before hval0 hW hcnd _
  have hval : ∀ (j : Nat) t v, Try.f3.params[j]? = some t → args[j]? = some v → Value.okWide Try.prog W .any base t v := hval0
  have hW' := hW
  obtain ⟨p, q, hA0, hV, rfl, hfz, hnd⟩ := hW
  have hA : DataW.TrodAll enc Try.prog W 0 (fun _ => true) true Try.f3.params.toList args.toList ds p := hA0
  rw [Try.params3] at hA hval
  obtain ⟨v0, vs0, d0, ds0, p0, q0, hargs, rfl, rfl, h0, r0⟩ := trodAll_cons hA
  obtain ⟨v1, vs1, d1, ds1, p1, q1, rfl, rfl, rfl, h1, r1⟩ := trodAll_cons r0
  obtain ⟨v2, vs2, d2, ds2, p2, q2, rfl, rfl, rfl, h2, r2⟩ := trodAll_cons r1
  obtain ⟨v3, vs3, d3, ds3, p3, q3, rfl, rfl, rfl, h3, r3⟩ := trodAll_cons r2
  obtain ⟨rfl, rfl, rfl⟩ := trodAll_nil r3
  obtain rfl : args = #[v0, v1, v2, v3] := by cases args; simp_all
  obtain ⟨rfl, rfl⟩ := trodVars_none hV
  have lt0 : ∀ x ∈ p0, x.block < W.heap.size := by obtain ⟨m, hm⟩ := h0; exact DataW.trod_lt m _ _ _ hm
  have lt1 : ∀ x ∈ p1, x.block < W.heap.size := by obtain ⟨m, hm⟩ := h1; exact DataW.trod_lt m _ _ _ hm
  have lt2 : ∀ x ∈ p2, x.block < W.heap.size := by obtain ⟨m, hm⟩ := h2; exact DataW.trod_lt m _ _ _ hm
  obtain ⟨ao, na, ca, rfl⟩ := okWide_slice Try.underlying22 (hval 0 22 v0 rfl rfl)
  obtain ⟨bo, nb, cb, rfl⟩ := okWide_slice Try.underlying22 (hval 2 22 v2 rfl rfl)
  obtain ⟨la, ab, aoff, Qa, Ua, hca⟩ := came_of h0
  obtain ⟨lb, bb, boff, Qb, Ub, hcb⟩ := came_of h2
  obtain ⟨g, rfl, rfl, rfl, wg⟩ := open_int Try.underlying2 (hval 3 2 v3 rfl rfl) h3
  obtain ⟨n0, n1, rfl⟩ : ∃ n0 n1, v1 = .agg #[.int .i64 n0, .int .i64 n1] := by
    obtain ⟨c0, c1, y0, y1, m, rfl, _, _, hy0, hy1⟩ := open_agg2 Try.underlying24 (by kernel_rfl) Try.cells24 (hval 1 24 v1 rfl rfl) h1
    obtain ⟨n0, e0, _⟩ := DataW.trod_int Try.underlying2 hy0
    obtain ⟨n1, e1, _⟩ := DataW.trod_int Try.underlying2 hy1
    simp at e0 e1
    exact ⟨n0, n1, by rw [e0, e1]⟩
  clear hA0 hval0
  refine (walk ao bo ab aoff bb boff na nb ca cb Qa Ua Qb Ub n0 n1 g la lb W hca hcb).mono fun e W' ⟨he, bel⟩ => ?_
  subst he
  exact ⟨_, rfl, _, _, _, [], _, [], hW', trodAll_mk1 (shut_bool Try.underlying4 _), (trodAll_cons_mk (Below.trod laidOut (by kernel_rfl) (of_decide_eq_true (by kernel_rfl)) h0 bel lt0) (trodAll_cons_mk (Below.trod laidOut (by kernel_rfl) (of_decide_eq_true (by kernel_rfl)) h1 bel lt1) (trodAll_cons_mk (Below.trod laidOut (by kernel_rfl) (of_decide_eq_true (by kernel_rfl)) h2 bel lt2) (trodAll_cons_mk (shut_int Try.underlying2 wg) trodAll_mk0)))), rfl, bel.frame _, fun h => by cases h⟩

/-- THE STATEMENT. -/
theorem fnHeldByPutInAnywhere_proved : Rows.FnHeldByPutInAnywhereSaid :=
  OpenClaim.holds_of_wide 3 Try.f3 rfl rfl rfl rfl rfl rfl rfl ⟨rfl, rfl, rfl, rfl, rfl⟩ rfl rfl rfl rfl rfl (by kernel_rfl) Try.func3 (by kernel_rfl)
    (of_decide_eq_true (by kernel_rfl)) (by unfold Func.isWrapper; first | (rw [if_pos (by decide +kernel)]; kernel_rfl) | (rw [if_neg (by decide +kernel)]; exact ⟨rfl, rfl⟩))
    (fun os started H enc _ => lifted os started H enc)
#print axioms fnHeldByPutInAnywhere_proved
end Go.Proofs.Qxb6623471a

/-
  The walk of '(quantifier).split'.
-/
import Derived.Test.Qxb6623516aParts
import Derived.WalkLawsBesides
import Derived.OwnWalk
import Derived.Deep.QuietTactic
import Derived.BigQuiet
namespace Go.Proofs.Qxb6623516a
open Go.RowKit
set_option linter.unusedVariables false

/-- three new cells at the head of a new block -/
theorem three_new (w : World) (a b : Int) (c : Bool) (j : Nat) (u : Value) (h : ([.int .i64 a, .int .i64 b, .bool c] : List Value)[j]? = some u) :
    (w.alloc (.cells #[.int .i64 a, .int .i64 b, .bool c] 30)).cell? ((⟨w.heap.size, 0, none⟩ : Addr).add j) = some u := by
  rw [Addr.add_lit, Nat.zero_add, World.cell?_alloc_new]
  simpa using h
theorem three_one (a b : Int) (c : Bool) : ∀ u ∈ ([.int .i64 a, .int .i64 b, .bool c] : List Value), u.oneCell' = true := by
  intro u hu
  simp at hu
  rcases hu with rfl | rfl | rfl <;> rfl

/-- what an append leaves of old memory -/
theorem app_below {w wr w1 : World} {B : Nat} {v : Value} {n : Nat} {xs : List Value} {o : Obj} (hB : Below B w wr) (hsz : B < wr.heap.size) (hown : wr.ownsRow B 30 3 v n xs) (hg : (wr.alloc o).grownBy w1 v.ownBlock) :
    Below B w w1 ∧ B < w1.heap.size := by
  have h1 : Below B w w1 := (hB.alloc (by omega) o).grown hg (by simp; omega) (fun k hk => (hown.lt k hk).1)
  have h2 := hg.size
  rw [World.size_alloc] at h2
  exact ⟨h1, by omega⟩

theorem un_cells (qmin most T : Int) (i : Nat) (hT : (i : Int) * most = T) :
    cells3 (fun j => if j < i then most else qmin - (i : Int) * most) (fun j => if j < i then most else 0) (fun j => decide (j < i)) (i + 1) = cells3 (fun _ => most) (fun _ => most) (fun _ => true) i ++ [.int .i64 (qmin - T), .int .i64 0, .bool false] := by
  rw [cells3_succ, hT]
  congr 1
  · exact cells3_congr i fun j hj => by simp [hj]
  · simp

set_option maxRecDepth 100000 in
set_option maxHeartbeats 1000000 in
theorem split_un (qmin qmax most : Int) (hm : 1 ≤ most) (hq : qmin < 16385 * most) (l1 : -9223372036854775808 ≤ qmin) (l2 : qmin ≤ 9223372036854775807) (w : World) :
    Calls Try.prog 7 #[.agg #[.int .i64 qmin, .int .i64 qmax, .bool false], .int .i64 most] w fun e w' =>
      ∃ (p : Nat) (v : Value), p < 16385 ∧ qmin - (p : Int) * most ≤ most ∧ (p = 0 ∨ (p : Int) * most < qmin) ∧ e = .returned v ∧
        w'.ownsRow w.heap.size 30 3 v (p + 1) (cells3 (fun j => if j < p then most else qmin - (p : Int) * most) (fun j => if j < p then most else 0) (fun j => decide (j < p)) (p + 1)) ∧ Below w.heap.size w w' := by
  obtain ⟨i0, hi0, hz0, hz1, hz2⟩ := info_parts Try.info30
  have HQ : Hid (qmin < 16385 * most) := hq
  clear hq
  go_enter Try.func7, Try.ntmps7
  go_wp2
  go_loopw [5, 6] (fun v x wr => ∃ (i : Nat) (T : Int), Hid ((i : Int) * most = T) ∧ i < 16385 ∧ x = .int .i64 (qmin - T) ∧ 0 ≤ T ∧ (i = 0 ∨ T < qmin) ∧ wr.ownsRow w.heap.size 30 3 v i (cells3 (fun _ => most) (fun _ => most) (fun _ => true) i) ∧ Below w.heap.size w wr ∧ w.heap.size < wr.heap.size) (fun _ x _ => (intOf x).toNat)
  case atStart => exact ⟨0, 0, by show ((0 : Nat) : Int) * most = 0; simp, by omega, by simp, Int.le_refl _, .inl rfl, World.ownsRow_nil _ _ _ _, (Below.refl _ _).alloc (Nat.le_refl _) _, by simp⟩
  case round =>
    obtain ⟨i, T, HT, hi, rfl, hT, hTq, hown, hB, hsz⟩ := hrel
    by_cases hlt : most < qmin - T
    · have k2 : Hid (((i + 1 : Nat) : Int) * most = T + most) := by
        show ((i + 1 : Nat) : Int) * most = T + most
        rw [mul_succ', HT.out]
      have k1 : Hid (i + 1 < 16385) := few (i + 1) most hm (by have := HQ.out; have := k2.out; omega)
      clear hTq
      go_wp2_with (at_builtin; refine wpList_append_own _ rfl (.tmp 21) (.tmp 25) 28 rfl w.heap.size 30 i0 (.agg #[.int .i64 0, .int .i64 0, .bool false]) 3 24 Try.underlying28 hi0 hz0 hz1 hz2 rfl (by decide) _ _ _ rfl (hown.alloc _) ⟨wr.heap.size, 0, none⟩ 1 1 [.int .i64 most, .int .i64 most, .bool true] rfl rfl (three_new _ _ _ _) (three_one _ _ _) (by unfold maxLen; omega) (by omega) (by simp; omega) ?_)
      intro v' w1 hown' hgrow _
      have R := app_below hB hsz hown hgrow
      rw [← cells3_succ (fun _ => most) (fun _ => most) (fun _ => true) i] at hown'
      have HO : Hid _ := hown'
      have HR : Hid _ := R
      clear hown' hgrow R hown hB hsz
      go_wp2
      go_roundw
      case rel => exact ⟨i + 1, T + most, k2, k1.out, by go_num, by omega, by omega, HO.out, HR.out.1, HR.out.2⟩
      case measure => simp [intOf]; omega
    · go_wp2_with (at_builtin; refine wpList_append_own _ rfl (.tmp 27) (.tmp 30) 28 rfl w.heap.size 30 i0 (.agg #[.int .i64 0, .int .i64 0, .bool false]) 3 24 Try.underlying28 hi0 hz0 hz1 hz2 rfl (by decide) _ _ _ rfl (hown.alloc _) ⟨wr.heap.size, 0, none⟩ 1 1 [.int .i64 (qmin - T), .int .i64 0, .bool false] rfl rfl (three_new _ _ _ _) (three_one _ _ _) (by unfold maxLen; omega) (by omega) (by simp; omega) ?_)
      intro v' w1 hown' hgrow _
      have R := app_below hB hsz hown hgrow
      rw [← un_cells qmin most T i HT.out] at hown'
      have HO : Hid _ := hown'
      have HR : Hid _ := R
      clear hown' hgrow R hown hB hsz
      go_wp2
      go_ret
      exact ⟨i, v', hi, by rw [HT.out]; omega, by rw [HT.out]; exact hTq, rfl, HO.out, HR.out.1⟩

end Go.Proofs.Qxb6623516a

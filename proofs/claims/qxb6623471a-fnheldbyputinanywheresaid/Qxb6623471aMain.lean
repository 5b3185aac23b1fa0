/-
  The law's long way: the chains are made, HeldBy is asked four times.
-/
import Derived.Test.Qxb6623471aLaw
namespace Go.Proofs.Qxb6623471a
open Go.RowKit

/-- one append of one pointer within the room of a row -/
theorem wpList_append_ptr {P : Program} (w : World) {ops : Array Oper} {rest : List Oper} {o : Oper} {a : Act} {Q : Exit → Act → World → Prop}
    (hg : o.guard = none) (s x : Operand) (t : TypeId) (hop : o.op = Op.call { callee := Callee.builtin Builtin.append, args := #[s, x], argTypes := #[t, t] })
    (e : TypeId) (i : TypeInfo) (h1 : P.underlying t = some (.slice e)) (h2 : P.info? e = some i) (h4 : i.size = 1)
    (b n cap : Nat) (hs : a.eval s = .slice (some ⟨b, 0, none⟩) n cap)
    (ad : Addr) (v : Value) (hx : a.eval x = .slice (some ad) 1 1) (hc : w.cell? ad = some v) (h1c : v.oneCell' = true)
    (hroom : n + 1 ≤ cap) (hspare : (w.cell? ⟨b, n, none⟩).isSome = true ∧ w.frozen? ⟨b, n, none⟩ = false)
    (hK : wpList P ops Q rest (a.put o.dst (.slice (some ⟨b, 0, none⟩) (n + 1) cap)) (w.setCell ⟨b, n, none⟩ v)) :
    wpList P ops Q (o :: rest) a w := by
  refine wpList_plain hg fun K hK' => ?_
  have hrun := run_append_room_cells (P := P) w t o.type e i h1 h2 b 0 n cap ad 1 1 [v] (by simp [h4]) (fun j u hj => by
      match j, hj with
      | 0, hj => simp at hj; subst hj; simpa [Addr.add] using hc) (fun u hu => by simp at hu; subst hu; exact h1c) hroom (fun j hj => by
      match j, hj with
      | 0, _ => simpa [h4] using hspare.1) (fun j hj => by
      match j, hj with
      | 0, _ => simpa [h4] using hspare.2)
  have e1 : w.setCells b (0 + n * i.size) [v] = w.setCell ⟨b, n, none⟩ v := by simp [World.setCells, h4]
  rw [e1] at hrun
  unfold Oper.wp
  simp [execOp, hop, resolve, invoke, builtin, hs, hx, hrun, Result.andThen]
  exact hK' _ _ hK

/-- the same inside a region that draws its order -/
theorem step_append_ptr {P : Program} {ops : Array Oper} {o : Oper} {a : Act} {w : World} {K : Act → World → Prop} {Q : Exit → Act → World → Prop} {E : Prop}
    (hg : o.guard = none) (s x : Operand) (t : TypeId) (hop : o.op = Op.call { callee := Callee.builtin Builtin.append, args := #[s, x], argTypes := #[t, t] })
    (e : TypeId) (i : TypeInfo) (h1 : P.underlying t = some (.slice e)) (h2 : P.info? e = some i) (h4 : i.size = 1)
    (b n cap : Nat) (hs : a.eval s = .slice (some ⟨b, 0, none⟩) n cap)
    (ad : Addr) (v : Value) (hx : a.eval x = .slice (some ad) 1 1) (hc : w.cell? ad = some v) (h1c : v.oneCell' = true)
    (hroom : n + 1 ≤ cap) (hspare : (w.cell? ⟨b, n, none⟩).isSome = true ∧ w.frozen? ⟨b, n, none⟩ = false)
    (hK : K (a.put o.dst (.slice (some ⟨b, 0, none⟩) (n + 1) cap)) (w.setCell ⟨b, n, none⟩ v)) :
    if Region.wanted o (yielded ops a.tmps) = true then Oper.wp P o a w K Q else E := by
  have e1 : w.setCells b (0 + n * 1) [v] = w.setCell ⟨b, n, none⟩ v := by simp [World.setCells]
  exact step_append_room hg s x t hop e i 1 h1 h2 h4 b 0 n cap hs ad 1 1 [v] hx (by simp) (fun j u hj => by
      match j, hj with
      | 0, hj => simp at hj; subst hj; simpa [Addr.add] using hc) (fun u hu => by simp at hu; subst hu; exact h1c) hroom (fun j hj => by
      match j, hj with
      | 0, _ => simpa using hspare) (by rw [e1]; exact hK)

theorem make_cap (n : Nat) (N : Int) (hN : N = n) (hn : n ≤ 1000000) (w : World) :
    (Instr.makeSlice 26 (.int .i64 0) (.int .i64 N)).run Try.prog w = .ok (.slice (some ⟨w.heap.size, 0, none⟩) 0 n) (w.alloc (.cells (madeCells #[.pointer none] n) 28)) := by
  subst hN
  obtain ⟨i, hi, hz0, hz1, hz2⟩ := info_parts Try.info28
  have hr := run_make (P := Try.prog) w 26 28 i (.pointer none) Try.underlying26 hi hz0 .i64 .i64 0 n (Int.le_refl _) (by omega) (by rw [hz2]; omega) (by omega)
  simpa [hz1, Value.cells] using hr

/-- the whole chain's numbers -/
def mix (n : Nat) (X : Nat → Int) (x : Int) (Y : Nat → Int) (j : Nat) : Int := if j < n then X j else if j = n then x else Y (j - (n + 1))

/-- HeldBy's answer. -/
def heldV (g : Int) (Q U : Nat → Int) (n : Nat) : Int := if g = 0 then -1 else firstF g Q U n 0

theorem held_any (g : Int) (b n cap : Nat) (Q U : Nat → Int) (hn : n ≤ 1000000) (w : World) (h : Chained w b n Q U) :
    Calls Try.prog 6 #[.slice (some ⟨b, 0, none⟩) n cap, .int .i64 g] w fun e w' => e = .returned (.int .i64 (heldV g Q U n)) ∧ ∃ m, w' = w.drewN m := by
  unfold heldV
  by_cases hg : g = 0
  · subst hg
    rw [if_pos rfl]
    exact held_zero _ _
  · rw [if_neg hg]
    obtain ⟨A, hA⟩ := h
    exact held_some g (by simpa using hg) b 0 n cap A Q U hn w (fun j hj => (hA j hj).1) (fun j hj => (hA j hj).2.1) (fun j hj => (hA j hj).2.2)

theorem below_drewN {B : Nat} {a w : World} (h : Below B a w) (m : Nat) : Below B a (w.drewN m) := ⟨h.os, h.tape, h.output, h.size, h.block⟩

/-! ### the plain law -/
theorem firstF_bounds (g : Int) (Q U : Nat → Int) : ∀ (m k : Nat), firstF g Q U m k = -1 ∨ ((k : Int) ≤ firstF g Q U m k ∧ firstF g Q U m k < k + m)
  | 0, k => .inl rfl
  | m + 1, k => by
    unfold firstF
    split
    · right; omega
    · rcases firstF_bounds g Q U m (k + 1) with h | h
      · exact .inl h
      · right; omega

theorem firstF_congr (g : Int) (Q U Q' U' : Nat → Int) : ∀ (m k : Nat), (∀ j, k ≤ j → j < k + m → Q j = Q' j ∧ U j = U' j) → firstF g Q U m k = firstF g Q' U' m k
  | 0, _, _ => rfl
  | m + 1, k, h => by
    unfold firstF
    obtain ⟨h1, h2⟩ := h k (Nat.le_refl _) (by omega)
    rw [h1, h2, firstF_congr g Q U Q' U' m (k + 1) (fun j a b => h j (by omega) (by omega))]

theorem firstF_append (g : Int) (Q U : Nat → Int) : ∀ (m p k : Nat), firstF g Q U (m + p) k = if firstF g Q U m k = -1 then firstF g Q U p (k + m) else firstF g Q U m k
  | 0, p, k => by simp [firstF]
  | m + 1, p, k => by
    rw [show m + 1 + p = (m + p) + 1 by omega]
    simp only [firstF]
    by_cases h : wrap64 (Q k - U k) < g
    · simp only [if_pos h]
      rw [if_neg (by omega)]
    · simp only [if_neg h]
      rw [firstF_append g Q U m p (k + 1), show k + 1 + m = k + (m + 1) by omega]

theorem firstF_shift (g : Int) (Q U : Nat → Int) (d : Nat) : ∀ (m k : Nat), firstF g (fun j => Q (j - d)) (fun j => U (j - d)) m (k + d) = if firstF g Q U m k = -1 then -1 else firstF g Q U m k + d
  | 0, k => by simp [firstF]
  | m + 1, k => by
    simp only [firstF, Nat.add_sub_cancel]
    by_cases h : wrap64 (Q k - U k) < g
    · simp only [if_pos h]
      rw [if_neg (by omega)]
      omega
    · simp only [if_neg h]
      rw [show k + d + 1 = (k + 1) + d by omega, firstF_shift g Q U d m (k + 1)]

theorem firstF_mix (g : Int) (na nb : Nat) (Qa Ua Qb Ub : Nat → Int) (q u : Int) :
    firstF g (mix na Qa q Qb) (mix na Ua u Ub) (na + 1 + nb) 0 =
      if firstF g Qa Ua na 0 ≠ -1 then firstF g Qa Ua na 0 else if wrap64 (q - u) < g then (na : Int) else if firstF g Qb Ub nb 0 ≠ -1 then na + 1 + firstF g Qb Ub nb 0 else -1 := by
  have e1 : firstF g (mix na Qa q Qb) (mix na Ua u Ub) na 0 = firstF g Qa Ua na 0 :=
    firstF_congr _ _ _ _ _ _ _ fun j _ h => by simp [mix, show j < na by omega]
  have e2 : firstF g (mix na Qa q Qb) (mix na Ua u Ub) nb (0 + (na + 1)) = firstF g (fun j => Qb (j - (na + 1))) (fun j => Ub (j - (na + 1))) nb (0 + (na + 1)) :=
    firstF_congr _ _ _ _ _ _ _ fun j h _ => by simp [mix, show ¬ j < na by omega, show ¬ j = na by omega]
  rw [show na + 1 + nb = na + (nb + 1) by omega, firstF_append, e1]
  by_cases h : firstF g Qa Ua na 0 = -1
  · rw [if_pos h, if_neg (by omega)]
    simp only [firstF, Nat.zero_add]
    have hm : ∀ X x Y, mix na X x Y na = x := fun X x Y => by simp [mix]
    rw [hm, hm]
    by_cases h2 : wrap64 (q - u) < g
    · simp [h2]
    · simp only [if_neg h2]
      rw [show na + 1 = 0 + (na + 1) by omega, e2, firstF_shift]
      by_cases h3 : firstF g Qb Ub nb 0 = -1
      · simp [h3]
      · rw [if_neg h3, if_pos h3]
        omega
  · rw [if_neg h, if_pos h]

/-- what the law's tail needs: the ways, each with its numbers. -/
theorem ways (g : Int) (na nb : Nat) (Qa Ua Qb Ub : Nat → Int) (q u : Int) :
    (g = 0 ∧ heldV g Qa Ua na = -1 ∧ heldV g (fun _ => q) (fun _ => u) 1 = -1 ∧ heldV g Qb Ub nb = -1 ∧ heldV g (mix na Qa q Qb) (mix na Ua u Ub) (na + 1 + nb) = -1) ∨
    (g ≠ 0 ∧ (heldV g Qb Ub nb = -1 ∨ 0 ≤ heldV g Qb Ub nb ∧ heldV g Qb Ub nb < nb) ∧
      ((wrap64 (q - u) < g ∧ heldV g (fun _ => q) (fun _ => u) 1 = 0 ∧
         ((0 ≤ heldV g Qa Ua na ∧ heldV g Qa Ua na < na ∧ heldV g (mix na Qa q Qb) (mix na Ua u Ub) (na + 1 + nb) = heldV g Qa Ua na) ∨
          (heldV g Qa Ua na = -1 ∧ heldV g (mix na Qa q Qb) (mix na Ua u Ub) (na + 1 + nb) = na))) ∨
       (¬ wrap64 (q - u) < g ∧ heldV g (fun _ => q) (fun _ => u) 1 = -1 ∧
         ((0 ≤ heldV g Qa Ua na ∧ heldV g Qa Ua na < na ∧ heldV g (mix na Qa q Qb) (mix na Ua u Ub) (na + 1 + nb) = heldV g Qa Ua na) ∨
          (heldV g Qa Ua na = -1 ∧ ((heldV g Qb Ub nb = -1 ∧ heldV g (mix na Qa q Qb) (mix na Ua u Ub) (na + 1 + nb) = -1) ∨
            (0 ≤ heldV g Qb Ub nb ∧ heldV g Qb Ub nb < nb ∧ heldV g (mix na Qa q Qb) (mix na Ua u Ub) (na + 1 + nb) = na + 1 + heldV g Qb Ub nb))))))) := by
  by_cases hg : g = 0
  · left; simp [heldV, hg]
  · right
    refine ⟨hg, ?_⟩
    simp only [heldV, if_neg hg]
    rw [firstF_mix]
    have ba := firstF_bounds g Qa Ua na 0
    have bb := firstF_bounds g Qb Ub nb 0
    refine ⟨by omega, ?_⟩
    by_cases h : wrap64 (q - u) < g
    · left
      refine ⟨h, by simp [firstF, h], ?_⟩
      rcases ba with h1 | h1
      · right; simp [h1, h]
      · left; rw [if_pos (by omega)]; omega
    · right
      refine ⟨h, by simp [firstF, h], ?_⟩
      rcases ba with h1 | h1
      · right
        refine ⟨h1, ?_⟩
        rw [if_neg (by omega), if_neg h]
        rcases bb with h2 | h2
        · left; simp [h2]
        · right; rw [if_pos (by omega)]; omega
      · left; rw [if_pos (by omega)]; omega

theorem mix_lo (n : Nat) (X : Nat → Int) (x : Int) (Y : Nat → Int) (j : Nat) (h : j < n) : mix n X x Y j = X j := by simp [mix, h]
theorem mix_at (n : Nat) (X : Nat → Int) (x : Int) (Y : Nat → Int) : mix n X x Y n = x := by simp [mix]
theorem mix_hi (n : Nat) (X : Nat → Int) (x : Int) (Y : Nat → Int) (j : Nat) : mix n X x Y (n + 1 + j) = Y j := by
  simp [mix, show ¬ n + 1 + j < n by omega, show ¬ n + 1 + j = n by omega, show n + 1 + j - (n + 1) = j by omega]

/-- all that an append of one new link leaves -/
theorem app_step {w4 wr : World} {n k : Nat} {Q U : Nat → Int} {q u : Int} (hR : Row wr w4.heap.size n k Q U) (hB : Below w4.heap.size w4 wr) (hk : k < n) (eq : Q k = q) (eu : U k = u) :
    (((wr.alloc (.cells #[.int .i64 q, .int .i64 u] 29)).alloc (.cells #[.pointer (some ⟨wr.heap.size, 0, none⟩)] 28)).cell? ⟨wr.heap.size + 1, 0, none⟩ = some (.pointer (some ⟨wr.heap.size, 0, none⟩))) ∧
    ((((wr.alloc (.cells #[.int .i64 q, .int .i64 u] 29)).alloc (.cells #[.pointer (some ⟨wr.heap.size, 0, none⟩)] 28)).cell? ⟨w4.heap.size, k, none⟩).isSome = true ∧ ((wr.alloc (.cells #[.int .i64 q, .int .i64 u] 29)).alloc (.cells #[.pointer (some ⟨wr.heap.size, 0, none⟩)] 28)).frozen? ⟨w4.heap.size, k, none⟩ = false) ∧
    Row (((wr.alloc (.cells #[.int .i64 q, .int .i64 u] 29)).alloc (.cells #[.pointer (some ⟨wr.heap.size, 0, none⟩)] 28)).setCell ⟨w4.heap.size, k, none⟩ (.pointer (some ⟨wr.heap.size, 0, none⟩))) w4.heap.size n (k + 1) Q U ∧
    Below w4.heap.size w4 (((wr.alloc (.cells #[.int .i64 q, .int .i64 u] 29)).alloc (.cells #[.pointer (some ⟨wr.heap.size, 0, none⟩)] 28)).setCell ⟨w4.heap.size, k, none⟩ (.pointer (some ⟨wr.heap.size, 0, none⟩))) := by
  have hs := hB.size
  refine ⟨?_, row_spare hR hk _ _, ?_, ((hB.alloc hs _).alloc (by simp; omega) _).setCell (by simp) _⟩
  · rw [show wr.heap.size + 1 = (wr.alloc (.cells #[.int .i64 q, .int .i64 u] 29)).heap.size by simp, World.cell?_alloc_new]; rfl
  · have := row_step hR
    rw [eq, eu] at this
    exact this

set_option maxRecDepth 100000 in
set_option maxHeartbeats 1000000 in
theorem law_main (ao bo : Option Addr) (ab aoff bb boff na nb ca cb : Nat) (Qa Ua Qb Ub : Nat → Int) (q u g : Int) (hs : na + nb ≤ 65536) (w : World) (ha : Came w ao ab aoff na Qa Ua) (hb : Came w bo bb boff nb Qb Ub) :
    Calls Try.prog 3 #[.slice ao na ca, .agg #[.int .i64 q, .int .i64 u], .slice bo nb cb, .int .i64 g] w fun e w' => e = .returned (.bool true) ∧ Below w.heap.size w w' := by
  have hbyt : na + nb ≤ 1048576 := by omega
  have HA : Hid (Came w ao ab aoff na Qa Ua) := ha
  have HB : Hid (Came w bo bb boff nb Qb Ub) := hb
  have hmk := make_cap (na + 1 + nb) ((na : Int) + 1 + (nb : Int)) (by omega) (by omega)
  have t1 : decide ((65536 : Int) < (na : Int)) = false := decide_eq_false (by omega)
  have t2 : decide ((65536 : Int) < (nb : Int)) = false := decide_eq_false (by omega)
  have t3 : decide ((65536 : Int) < (na : Int) + (nb : Int)) = false := decide_eq_false (by omega)
  obtain ⟨i0, hi0, hz0, hz1, hz2⟩ := info_parts Try.info28
  clear ha hb
  go_enter Try.func3, Try.ntmps3
  go_wp2_with fail
  refine (bytes_true _ _ _ _ _ _ _ _ _ hbyt _).mono ?_
  rintro e w' ⟨rfl, rfl⟩
  go_wp2_with fail
  have hB1 : Below w.heap.size w ((w.alloc (.cells #[.int .i64 q, .int .i64 u] 24)).alloc (.cells #[.int .i64 q, .int .i64 u] 24)) := ((Below.refl _ _).alloc (Nat.le_refl _) _).alloc (by simp) _
  refine (chain_any ao ab aoff na ca Qa Ua (by omega) _ (HA.out.below hB1)).mono ?_
  rintro e w2 ⟨rfl, hch, hbel⟩
  have x0 : w2.cell? ⟨w.heap.size, 0, none⟩ = some (.int .i64 q) := cell_kept hbel (by rw [World.cell?_alloc_lt _ _ _ (by simp), World.cell?_alloc_new]; rfl)
  have x1 : w2.cell? ⟨w.heap.size, 1, none⟩ = some (.int .i64 u) := cell_kept hbel (by rw [World.cell?_alloc_lt _ _ _ (by simp), World.cell?_alloc_new]; rfl)
  have hB2 : Below w.heap.size w w2 := hB1.trans (hbel.mono (by simp; omega))
  have HC2 : Hid (Chained w2 (w.heap.size + 1 + 1) na Qa Ua) := by rw [World.size_alloc, World.size_alloc] at hch; exact hch
  have hz2' : w.heap.size ≤ w2.heap.size := hB2.size
  clear hch hbel hB1
  go_wp2_with fail
  have hB3 : Below w2.heap.size w2 ((w2.alloc (.cells #[.int .i64 q, .int .i64 u] 29)).alloc (.cells #[.pointer (some ⟨w2.heap.size, 0, none⟩)] 28)) := ((Below.refl _ _).alloc (Nat.le_refl _) _).alloc (by simp) _
  have HC3 : Hid (Chained ((w2.alloc (.cells #[.int .i64 q, .int .i64 u] 29)).alloc (.cells #[.pointer (some ⟨w2.heap.size, 0, none⟩)] 28)) (w2.heap.size + 1) 1 (fun _ => q) (fun _ => u)) := by
    refine ⟨fun _ => w2.heap.size, fun j hj => ?_⟩
    have : j = 0 := by omega
    subst this
    refine ⟨?_, ?_, ?_⟩
    · rw [show w2.heap.size + 1 = (w2.alloc (.cells #[.int .i64 q, .int .i64 u] 29)).heap.size by simp, World.cell?_alloc_new]; rfl
    · rw [World.cell?_alloc_lt _ _ _ (by simp), World.cell?_alloc_new]; rfl
    · rw [World.cell?_alloc_lt _ _ _ (by simp), World.cell?_alloc_new]; rfl
  refine (chain_any bo bb boff nb cb Qb Ub (by omega) _ ((HB.out.below hB2).below hB3)).mono ?_
  rintro e w4 ⟨rfl, hch, hbel⟩
  have y0 : w4.cell? ⟨w.heap.size, 0, none⟩ = some (.int .i64 q) := cell_kept hbel (cell_kept hB3 x0)
  have y1 : w4.cell? ⟨w.heap.size, 1, none⟩ = some (.int .i64 u) := cell_kept hbel (cell_kept hB3 x1)
  have hB4 : Below w.heap.size w w4 := hB2.trans ((hB3.mono hz2').trans (hbel.mono (by simp; omega)))
  have HC2' : Hid (Chained w4 (w.heap.size + 1 + 1) na Qa Ua) := (HC2.out.below hB3).below hbel
  have HC3' : Hid (Chained w4 (w2.heap.size + 1) 1 (fun _ => q) (fun _ => u)) := HC3.out.below hbel
  have HC4 : Hid (Chained w4 (w2.heap.size + 1 + 1) nb Qb Ub) := by rw [World.size_alloc, World.size_alloc] at hch; exact hch
  have HA4 : Hid (Came w4 ao ab aoff na Qa Ua) := HA.out.below hB4
  have HB4 : Hid (Came w4 bo bb boff nb Qb Ub) := HB.out.below hB4
  clear hch hbel hB2 hB3 x0 x1 HC2 HC3 HA HB
  go_wp2_with fail
  go_loopw [12, 13] (fun v i wr => ∃ k : Nat, k ≤ na ∧ i = .int .i64 k ∧ v = .slice (some ⟨w4.heap.size, 0, none⟩) k (na + 1 + nb) ∧ Row wr w4.heap.size (na + 1 + nb) k (mix na Qa q Qb) (mix na Ua u Ub) ∧ Below w4.heap.size w4 wr) (fun _ i _ => na - (intOf i).toNat)
  case atStart => exact ⟨0, Nat.zero_le _, rfl, rfl, row_start w4 _ _ _, (Below.refl _ _).alloc (Nat.le_refl _) _⟩
  case round =>
    obtain ⟨k, hk, rfl, rfl, hR, hB⟩ := hrel
    by_cases hlt : k < na
    · obtain ⟨hao, c0, c1⟩ := HA4.out k hlt
      subst hao
      have hbl : ab < w4.heap.size := World.block_lt_of_cell? _ _ c0
      have c0r : wr.cell? ⟨ab, aoff + k * 2, none⟩ = some (.int .i64 (Qa k)) := (hB.cell hbl).trans c0
      have c1r : wr.cell? ⟨ab, aoff + k * 2 + 1, none⟩ = some (.int .i64 (Ua k)) := (hB.cell hbl).trans c1
      obtain ⟨s1, s2, s3, s4⟩ := app_step hR hB (show k < na + 1 + nb by omega) (mix_lo na Qa q Qb k hlt) (mix_lo na Ua u Ub k hlt)
      have S1 := s1
      have H1 : Hid _ := s1
      have H2 : Hid _ := s2
      have H3 : Hid _ := s3
      have H4 : Hid _ := s4
      clear s1 s2 s3 s4 S1 c0 c1 hR
      go_wp2_with fail
      go_region_law (refine step_append_ptr rfl (.tmp 64) (.tmp 77) 26 rfl 28 i0 Try.underlying26 hi0 hz1 w4.heap.size k (na + 1 + nb) (by simp [Act.eval]) ⟨wr.heap.size + 1, 0, none⟩ (.pointer (some ⟨wr.heap.size, 0, none⟩)) (by simp [Act.eval]) H1.out rfl (by omega) H2.out ?_)
      all_goals
        go_wp2
        go_roundw
        case rel => exact ⟨k + 1, by omega, by go_num, rfl, row_drew H3.out, H4.out.drew⟩
        case measure => simp [intOf]; omega
    · have hkn : k = na := by omega
      subst hkn
      have hwl : w.heap.size < w4.heap.size := World.block_lt_of_cell? _ _ y0
      have z0 : wr.cell? ⟨w.heap.size, 0, none⟩ = some (.int .i64 q) := (hB.cell hwl).trans y0
      have z1 : wr.cell? ⟨w.heap.size, 1, none⟩ = some (.int .i64 u) := (hB.cell hwl).trans y1
      obtain ⟨s1, s2, s3, s4⟩ := app_step hR hB (show k < k + 1 + nb by omega) (mix_at k Qa q Qb) (mix_at k Ua u Ub)
      have H1 : Hid _ := s1
      have H2 : Hid _ := s2
      have H3 : Hid _ := s3
      have H4 : Hid _ := s4
      clear s1 s2 s3 s4 hR
      go_wp2_with (at_builtin; refine wpList_append_ptr _ rfl (.tmp 79) (.tmp 86) 26 rfl 28 i0 Try.underlying26 hi0 hz1 w4.heap.size k (k + 1 + nb) rfl ⟨wr.heap.size + 1, 0, none⟩ (.pointer (some ⟨wr.heap.size, 0, none⟩)) rfl H1.out rfl (by omega) H2.out ?_)
      go_loopw [12, 14] (fun v i wx => ∃ j : Nat, j ≤ nb ∧ i = .int .i64 j ∧ v = .slice (some ⟨w4.heap.size, 0, none⟩) (k + 1 + j) (k + 1 + nb) ∧ Row wx w4.heap.size (k + 1 + nb) (k + 1 + j) (mix k Qa q Qb) (mix k Ua u Ub) ∧ Below w4.heap.size w4 wx) (fun _ i _ => nb - (intOf i).toNat)
      case atStart => exact ⟨0, Nat.zero_le _, rfl, rfl, H3.out, H4.out⟩
      case round =>
        clear H1 H2 H3 H4 z0 z1
        obtain ⟨j, hj, rfl, rfl, hR, hB⟩ := hrel
        by_cases hlt2 : j < nb
        · obtain ⟨hbo, c0, c1⟩ := HB4.out j hlt2
          subst hbo
          have hbl : bb < w4.heap.size := World.block_lt_of_cell? _ _ c0
          have c0r : wr.cell? ⟨bb, boff + j * 2, none⟩ = some (.int .i64 (Qb j)) := (hB.cell hbl).trans c0
          have c1r : wr.cell? ⟨bb, boff + j * 2 + 1, none⟩ = some (.int .i64 (Ub j)) := (hB.cell hbl).trans c1
          obtain ⟨s1, s2, s3, s4⟩ := app_step hR hB (show k + 1 + j < k + 1 + nb by omega) (mix_hi k Qa q Qb j) (mix_hi k Ua u Ub j)
          have H1 : Hid _ := s1
          have H2 : Hid _ := s2
          have H3 : Hid _ := s3
          have H4 : Hid _ := s4
          clear s1 s2 s3 s4 c0 c1 hR
          go_wp2_with fail
          go_region_law (refine step_append_ptr rfl (.tmp 94) (.tmp 107) 26 rfl 28 i0 Try.underlying26 hi0 hz1 w4.heap.size (k + 1 + j) (k + 1 + nb) (by simp [Act.eval]) ⟨wr.heap.size + 1, 0, none⟩ (.pointer (some ⟨wr.heap.size, 0, none⟩)) (by simp [Act.eval]) H1.out rfl (by omega) H2.out ?_)
          all_goals
            go_wp2
            go_roundw
            case rel => exact ⟨j + 1, by omega, by go_num, rfl, row_drew H3.out, H4.out.drew⟩
            case measure => simp [intOf]; omega
        · have hjn : j = nb := by omega
          subst hjn
          have HCw : Hid (Chained wr w4.heap.size (k + 1 + j) (mix k Qa q Qb) (mix k Ua u Ub)) := row_chained hR
          have HCa : Hid (Chained wr (w.heap.size + 1 + 1) k Qa Ua) := HC2'.out.below hB
          have HCu : Hid (Chained wr (w2.heap.size + 1) 1 (fun _ => q) (fun _ => u)) := HC3'.out.below hB
          have HCb : Hid (Chained wr (w2.heap.size + 1 + 1) j Qb Ub) := HC4.out.below hB
          have z0 : wr.cell? ⟨w.heap.size, 0, none⟩ = some (.int .i64 q) := (hB.cell hwl).trans y0
          have z1 : wr.cell? ⟨w.heap.size, 1, none⟩ = some (.int .i64 u) := (hB.cell hwl).trans y1
          have HBw : Hid (Below w.heap.size w wr) := hB4.trans (hB.mono (by omega))
          obtain ⟨ra, HRA⟩ : ∃ ra, Hid (heldV g Qa Ua k = ra) := ⟨_, rfl⟩
          obtain ⟨ru, HRU⟩ : ∃ ru, Hid (heldV g (fun _ => q) (fun _ => u) 1 = ru) := ⟨_, rfl⟩
          obtain ⟨rb, HRB⟩ : ∃ rb, Hid (heldV g Qb Ub j = rb) := ⟨_, rfl⟩
          obtain ⟨r, HRW⟩ : ∃ r, Hid (heldV g (mix k Qa q Qb) (mix k Ua u Ub) (k + 1 + j) = r) := ⟨_, rfl⟩
          have W := ways g k j Qa Ua Qb Ub q u
          rw [HRA.out, HRU.out, HRB.out, HRW.out] at W
          have HW : Hid _ := W
          clear W hR hB hB4 HC2' HC3' HC4 HB4 y0 y1
          go_wp2_with fail
          refine (held_any g (w.heap.size + 1 + 1) k k Qa Ua (by omega) _ HCa.out).mono ?_
          rintro e w' ⟨rfl, m1, rfl⟩
          rw [HRA.out]
          go_wp2_with fail
          refine (held_any g (w2.heap.size + 1) 1 1 (fun _ => q) (fun _ => u) (by omega) _ (HCu.out.below (below_drewN (Below.refl _ _) _))).mono ?_
          rintro e w' ⟨rfl, m2, rfl⟩
          rw [HRU.out]
          go_wp2_with fail
          refine (held_any g (w2.heap.size + 1 + 1) j j Qb Ub (by omega) _ (HCb.out.below (below_drewN (Below.refl _ _) _))).mono ?_
          rintro e w' ⟨rfl, m3, rfl⟩
          rw [HRB.out]
          go_wp2_with fail
          refine (held_any g w4.heap.size (k + 1 + j) (k + 1 + j) (mix k Qa q Qb) (mix k Ua u Ub) (by omega) _ (HCw.out.below (below_drewN (Below.refl _ _) _))).mono ?_
          rintro e w' ⟨rfl, m4, rfl⟩
          rw [HRW.out]
          rcases HW.out with ⟨hg, h1, h2, h3, h4⟩ | ⟨hg, hb, ⟨hr, h1, ⟨a1, a2, a3⟩ | ⟨a1, a2⟩⟩ | ⟨hr, h1, ⟨a1, a2, a3⟩ | ⟨a1, ⟨a2, a3⟩ | ⟨a2, a3, a4⟩⟩⟩⟩
          · clear HRA HRU HRB HRW HW
            subst hg h1 h2 h3 h4
            go_wp2
            go_ret
            exact ⟨rfl, below_drewN HBw.out _⟩
          all_goals
            have hb1 : -1 ≤ rb := by omega
            have hb2 : rb < (j : Int) := by omega
            have hg0 : (g != 0) = true := by simpa using hg
            clear HRA HRU HRB HRW HW hb hg
            subst h1
          · subst a3
            go_wp2
            go_ret
            exact ⟨rfl, below_drewN HBw.out _⟩
          · subst a1 a2
            go_wp2
            go_ret
            exact ⟨rfl, below_drewN HBw.out _⟩
          · subst a3
            go_wp2
            go_ret
            exact ⟨rfl, below_drewN HBw.out _⟩
          · subst a1 a2 a3
            go_wp2
            go_ret
            exact ⟨rfl, below_drewN HBw.out _⟩
          · subst a1 a4
            go_wp2
            go_ret
            exact ⟨rfl, below_drewN HBw.out _⟩

end Go.Proofs.Qxb6623471a

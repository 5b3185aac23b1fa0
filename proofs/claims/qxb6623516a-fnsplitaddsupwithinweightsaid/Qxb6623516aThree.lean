/-
  The walk of 'ZZQuantifierSplit': the parts' fields, one slice a field; and of 'splitCount'.
-/
import Derived.Test.Qxb6623516aSplitB
import Derived.Deep.OwnRows
namespace Go.Proofs.Qxb6623516a
open Go.RowKit
set_option linter.unusedVariables false

theorem cell_kept {w w' : World} (hb : Below w.heap.size w w') {a : Addr} {v : Value} (hc : w.cell? a = some v) : w'.cell? a = some v :=
  (hb.cell (World.block_lt_of_cell? w a hc)).trans hc

/-- the parts as they lie -/
def Lies (w : World) (ao : Option Addr) (g n : Nat) (A B : Nat → Int) (C : Nat → Bool) : Prop :=
  ∀ j, j < n → ao = some ⟨g, 0, none⟩ ∧ w.cell? ⟨g, j * 3, none⟩ = some (.int .i64 (A j)) ∧ w.cell? ⟨g, j * 3 + 1, none⟩ = some (.int .i64 (B j)) ∧ w.cell? ⟨g, j * 3 + 2, none⟩ = some (.bool (C j))

theorem own_shape {w : World} {base n : Nat} {v : Value} {A B : Nat → Int} {C : Nat → Bool} (h : w.ownsRow base 30 3 v n (cells3 A B C n)) :
    ∃ ao g cap, v = .slice ao n cap ∧ Lies w ao g n A B C := by
  have h0 := h
  obtain ⟨_, ⟨rfl, rfl⟩ | ⟨g, cap, cur, rfl, _⟩⟩ := h0
  · exact ⟨none, 0, 0, rfl, fun j hj => absurd hj (by omega)⟩
  · refine ⟨_, g, cap, rfl, fun j hj => ?_⟩
    obtain ⟨e1, e2, e3⟩ := cells3_at A B C n j hj
    exact ⟨rfl, by rw [h.cellAt (j * 3) (by omega), e1], by rw [h.cellAt (j * 3 + 1) (by omega), e2], by rw [h.cellAt (j * 3 + 2) (by omega), e3]⟩

/-- the three rows behind k rounds -/
def Rows3 (w wr : World) (n k : Nat) (A B : Nat → Int) (C : Nat → Bool) : Prop :=
  wr.rowIs w.heap.size 3 n (fun j => if j < k then .int .i64 (A j) else .int .i64 0) ∧ wr.rowIs (w.heap.size + 1) 3 n (fun j => if j < k then .int .i64 (B j) else .int .i64 0) ∧
  wr.rowIs (w.heap.size + 2) 4 n (fun j => if j < k then .bool (C j) else .bool false) ∧ Below w.heap.size w wr

theorem rows3_start (w : World) (n : Nat) (A B : Nat → Int) (C : Nat → Bool) :
    Rows3 w (((w.alloc (.cells (madeCells #[.int .i64 0] n) 3)).alloc (.cells (madeCells #[.int .i64 0] n) 3)).alloc (.cells (madeCells #[.bool false] n) 4)) n 0 A B C := by
  refine ⟨?_, ?_, ?_, (((Below.refl _ _).alloc (Nat.le_refl _) _).alloc (by simp) _).alloc (by simp; omega) _⟩
  · exact (((World.rowIs_made w (.int .i64 0) n 3).alloc _).alloc _).congr (fun j _ => by simp)
  · have := (World.rowIs_made (w.alloc (.cells (madeCells #[.int .i64 0] n) 3)) (.int .i64 0) n 3).alloc (.cells (madeCells #[.bool false] n) 4)
    rw [World.size_alloc] at this
    exact this.congr (fun j _ => by simp)
  · have := World.rowIs_made ((w.alloc (.cells (madeCells #[.int .i64 0] n) 3)).alloc (.cells (madeCells #[.int .i64 0] n) 3)) (.bool false) n 4
    rw [World.size_alloc, World.size_alloc] at this
    exact this.congr (fun j _ => by simp)

theorem row_next {wr : World} {b t n k : Nat} {f : Nat → Value} {z : Value} (h : wr.rowIs b t n (fun j => if j < k then f j else z)) : (wr.setCell ⟨b, k, none⟩ (f k)).rowIs b t n (fun j => if j < k + 1 then f j else z) := by
  refine (h.set k (f k)).congr fun j _ => ?_
  by_cases e : j = k
  · subst e; simp
  · by_cases e2 : j < k
    · simp [e, e2, show j < k + 1 by omega]
    · simp [e, e2, show ¬ j < k + 1 by omega]

theorem rows3_step {w wr : World} {n k : Nat} {A B : Nat → Int} {C : Nat → Bool} (h : Rows3 w wr n k A B C) :
    Rows3 w (((wr.setCell ⟨w.heap.size, k, none⟩ (.int .i64 (A k))).setCell ⟨w.heap.size + 1, k, none⟩ (.int .i64 (B k))).setCell ⟨w.heap.size + 2, k, none⟩ (.bool (C k))) n (k + 1) A B C := by
  obtain ⟨h1, h2, h3, h4⟩ := h
  refine ⟨?_, ?_, ?_, ((h4.setCell (by simp) _).setCell (by simp) _).setCell (by simp) _⟩
  · exact ((row_next (f := fun j => .int .i64 (A j)) h1).setOther (by simp) _).setOther (by simp) _
  · exact (row_next (f := fun j => .int .i64 (B j)) (h2.setOther (by simp) _)).setOther (by simp) _
  · exact row_next (f := fun j => .bool (C j)) ((h3.setOther (by simp) _).setOther (by simp) _)

theorem other_cell {w : World} {a b : Addr} (h : a.block ≠ b.block) (v : Value) : (w.setCell a v).cell? b = w.cell? b :=
  World.cell?_setCell_other _ _ _ _ (fun e => h (by rw [e]))

set_option maxRecDepth 100000 in
set_option maxHeartbeats 1000000 in
theorem zz5 (qmin qmax most : Int) (bd : Bool) (S : Nat → (Nat → Int) → (Nat → Int) → (Nat → Bool) → Prop) (w : World)
    (hsplit : ∀ w, Calls Try.prog 7 #[.agg #[.int .i64 qmin, .int .i64 qmax, .bool bd], .int .i64 most] w fun e w' =>
      ∃ n A B C v, S n A B C ∧ n ≤ 20000 ∧ e = .returned v ∧ w'.ownsRow w.heap.size 30 3 v n (cells3 A B C n) ∧ Below w.heap.size w w') :
    Calls Try.prog 5 #[.int .i64 qmin, .int .i64 qmax, .bool bd, .int .i64 most] w fun e w' =>
      ∃ n A B C b1 b2 b3, S n A B C ∧ n ≤ 20000 ∧ e = .returned (.tuple #[.slice (some ⟨b1, 0, none⟩) n n, .slice (some ⟨b2, 0, none⟩) n n, .slice (some ⟨b3, 0, none⟩) n n]) ∧
        (∀ j, j < n → w'.cell? ⟨b1, j, none⟩ = some (.int .i64 (A j)) ∧ w'.cell? ⟨b2, j, none⟩ = some (.int .i64 (B j)) ∧ w'.cell? ⟨b3, j, none⟩ = some (.bool (C j))) ∧ Below w.heap.size w w' := by
  have HP : Hid _ := hsplit
  clear hsplit
  go_enter Try.func5, Try.ntmps5
  go_wp2_with fail
  refine (HP.out _).mono ?_
  rintro e w2 ⟨n, A, B, C, v, hS, hn, rfl, hown, hB⟩
  obtain ⟨ao, g, cap, hv, hl⟩ := own_shape hown
  rw [hv]
  clear hv hown HP
  have HS : Hid _ := hS
  have HL : Hid _ := hl
  have HB : Hid _ := hB
  clear hS hl hB
  have mk1 := run_make_row' (P := Try.prog) 22 3 (.int .i64 0) 8 Try.underlying22 Try.info3 rfl .i64 .i64 n (by omega) (by omega)
  have mk2 := run_make_row' (P := Try.prog) 23 4 (.bool false) 1 Try.underlying23 Try.info4 rfl .i64 .i64 n (by omega) (by omega)
  go_wp2_with fail
  go_loopw [15] (fun i wr => ∃ k : Nat, k ≤ n ∧ i = .int .i64 k ∧ Rows3 w2 wr n k A B C) (fun i _ => n - (intOf i).toNat)
  case atStart => exact ⟨0, Nat.zero_le _, rfl, rows3_start w2 n A B C⟩
  case round =>
    obtain ⟨k, hk, rfl, hR⟩ := hrel
    by_cases hlt : k < n
    · obtain ⟨hao, c0, c1, c2⟩ := HL.out k hlt
      subst hao
      have hgl : g < w2.heap.size := World.block_lt_of_cell? _ _ c0
      obtain ⟨r1, r2, r3, r4⟩ := hR
      have d0 : wr.cell? ⟨g, k * 3, none⟩ = some (.int .i64 (A k)) := (r4.cell hgl).trans c0
      have d1 : ∀ v, (wr.setCell ⟨w2.heap.size, k, none⟩ v).cell? ⟨g, k * 3 + 1, none⟩ = some (.int .i64 (B k)) := fun v => by
        rw [other_cell (by simp; omega)]; exact (r4.cell hgl).trans c1
      have d2 : ∀ v u, ((wr.setCell ⟨w2.heap.size, k, none⟩ v).setCell ⟨w2.heap.size + 1, k, none⟩ u).cell? ⟨g, k * 3 + 2, none⟩ = some (.bool (C k)) := fun v u => by
        rw [other_cell (by simp; omega), other_cell (by simp; omega)]; exact (r4.cell hgl).trans c2
      have e1 : wr.cell? ⟨w2.heap.size, k, none⟩ = some (.int .i64 0) := by rw [r1.cell hlt]; simp
      have e2 : ∀ v, (wr.setCell ⟨w2.heap.size, k, none⟩ v).cell? ⟨w2.heap.size + 1, k, none⟩ = some (.int .i64 0) := fun v => by
        rw [other_cell (by simp), r2.cell hlt]; simp
      have e3 : ∀ v u, ((wr.setCell ⟨w2.heap.size, k, none⟩ v).setCell ⟨w2.heap.size + 1, k, none⟩ u).cell? ⟨w2.heap.size + 2, k, none⟩ = some (.bool false) := fun v u => by
        rw [other_cell (by simp), other_cell (by simp), r3.cell hlt]; simp
      have f1 := r1.frozen k
      have f2 := r2.frozen k
      have f3 := r3.frozen k
      have H : Hid _ := rows3_step ⟨r1, r2, r3, r4⟩
      clear r1 r2 r3 r4 c0 c1 c2
      go_wp2
      go_roundw
      case rel => exact ⟨k + 1, by omega, by go_num, H.out⟩
      case measure => simp [intOf]; omega
    · have hkn : k = n := by omega
      subst hkn
      go_wp2
      go_ret3
      obtain ⟨r1, r2, r3, r4⟩ := hR
      refine ⟨k, A, B, C, _, _, _, HS.out, hn, rfl, fun j hj => ⟨?_, ?_, ?_⟩, HB.out.trans (r4.mono HB.out.size)⟩
      · rw [r1.cell hj, if_pos hj]
      · rw [r2.cell hj, if_pos hj]
      · rw [r3.cell hj, if_pos hj]

end Go.Proofs.Qxb6623516a

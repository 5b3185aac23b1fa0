/-
  The walk of 'zzChain': a fresh chain of fresh links, one to one with what came in.
-/
import Derived.Test.Qxb6623471aHeld
import Derived.Deep.OwnRows
import Derived.BigRegion
namespace Go.Proofs.Qxb6623471a
open Go.RowKit

/-- What is known of a slice of pairs that came in: its elements' two cells. -/
def Came (w : World) (ao : Option Addr) (b off n : Nat) (Q U : Nat → Int) : Prop :=
  ∀ j, j < n → ao = some ⟨b, off, none⟩ ∧ w.cell? ⟨b, off + j * 2, none⟩ = some (.int .i64 (Q j)) ∧ w.cell? ⟨b, off + j * 2 + 1, none⟩ = some (.int .i64 (U j))

/-- block b begins with n pointers to links (Q j, U j). -/
def Chained (w : World) (b n : Nat) (Q U : Nat → Int) : Prop :=
  ∃ A : Nat → Nat, ∀ j, j < n → w.cell? ⟨b, 0 + j, none⟩ = some (.pointer (some ⟨A j, 0, none⟩)) ∧ w.cell? ⟨A j, 0, none⟩ = some (.int .i64 (Q j)) ∧ w.cell? ⟨A j, 1, none⟩ = some (.int .i64 (U j))

theorem cell_kept {w w' : World} (hb : Below w.heap.size w w') {a : Addr} {v : Value} (hc : w.cell? a = some v) : w'.cell? a = some v :=
  (hb.cell (World.block_lt_of_cell? w a hc)).trans hc

theorem Came.below {w w' : World} {ao : Option Addr} {b off n : Nat} {Q U : Nat → Int} (h : Came w ao b off n Q U) (hb : Below w.heap.size w w') : Came w' ao b off n Q U :=
  fun j hj => ⟨(h j hj).1, cell_kept hb (h j hj).2.1, cell_kept hb (h j hj).2.2⟩
theorem Chained.below {w w' : World} {b n : Nat} {Q U : Nat → Int} (h : Chained w b n Q U) (hb : Below w.heap.size w w') : Chained w' b n Q U := by
  obtain ⟨A, hA⟩ := h
  exact ⟨A, fun j hj => ⟨cell_kept hb (hA j hj).1, cell_kept hb (hA j hj).2.1, cell_kept hb (hA j hj).2.2⟩⟩

theorem Try.info28 : (Try.prog.info? 28).map (fun i => (i.zero, i.size, i.bytes)) = some (some (.pointer none), 1, 8) := by kernel_rfl

/-- What holds at each round's head: k links are made. -/
def Made (w wr : World) (n k : Nat) (Q U : Nat → Int) : Prop :=
  wr.heap.size = w.heap.size + 1 + k ∧ wr.rowIs w.heap.size 28 n (fun j => if j < k then .pointer (some ⟨w.heap.size + 1 + j, 0, none⟩) else .pointer none) ∧
  (∀ j, j < k → wr.cell? ⟨w.heap.size + 1 + j, 0, none⟩ = some (.int .i64 (Q j)) ∧ wr.cell? ⟨w.heap.size + 1 + j, 1, none⟩ = some (.int .i64 (U j))) ∧ Below w.heap.size w wr

theorem made_start (w : World) (n : Nat) (Q U : Nat → Int) : Made w (w.alloc (.cells (madeCells #[.pointer none] n) 28)) n 0 Q U := by
  refine ⟨by simp, ?_, fun j hj => absurd hj (by omega), (Below.refl _ _).alloc (Nat.le_refl _) _⟩
  exact (World.rowIs_made w (.pointer none) n 28).congr (fun j _ => by simp)

theorem made_step {w wr : World} {n k : Nat} {Q U : Nat → Int} (hk : k < n) (h : Made w wr n k Q U) :
    Made w ((wr.alloc (.cells #[.int .i64 (Q k), .int .i64 (U k)] 29)).setCell ⟨w.heap.size, k, none⟩ (.pointer (some ⟨wr.heap.size, 0, none⟩))).drew n (k + 1) Q U := by
  obtain ⟨h1, h2, h3, h4⟩ := h
  refine ⟨?_, ?_, ?_, ?_⟩
  · simp [World.setCell, h1]; omega
  · refine ((h2.alloc _).set k _).drew.congr fun j hj => ?_
    by_cases e : j = k
    · subst e; simp [h1]
    · by_cases e2 : j < k
      · simp [e, e2, show j < k + 1 by omega]
      · simp [e, e2, show ¬ j < k + 1 by omega]
  · intro j hj
    have hne : ∀ x, (⟨w.heap.size, k, none⟩ : Addr) ≠ ⟨w.heap.size + 1 + j, x, none⟩ := fun x e => by
      have := congrArg Addr.block e; simp at this; omega
    rw [World.cell?_drew, World.cell?_drew, World.cell?_setCell_other _ _ _ _ (hne 0), World.cell?_setCell_other _ _ _ _ (hne 1)]
    by_cases e : j < k
    · rw [World.cell?_alloc_lt _ _ _ (by simp; omega), World.cell?_alloc_lt _ _ _ (by simp; omega)]
      exact h3 j e
    · have e2 : j = k := by omega
      subst e2
      rw [← h1, World.cell?_alloc_new, World.cell?_alloc_new]
      exact ⟨rfl, rfl⟩
  · exact (((h4.alloc (by omega) _).setCell (by simp) _)).drew

set_option maxHeartbeats 400000 in
theorem chain_any (ao : Option Addr) (b off n cap : Nat) (Q U : Nat → Int) (hn : n ≤ 65536) (w : World) (hc : Came w ao b off n Q U) :
    Calls Try.prog 5 #[.slice ao n cap] w fun e w' => e = .returned (.slice (some ⟨w.heap.size, 0, none⟩) n n) ∧ Chained w' w.heap.size n Q U ∧ Below w.heap.size w w' := by
  have hmk := run_make_row' (P := Try.prog) 26 28 (.pointer none) 8 Try.underlying26 Try.info28 rfl .i64 .i64 n (by omega) (by omega)
  go_enter Try.func5, Try.ntmps5
  go_wp2
  go_loopw [4] (fun i wr => ∃ k : Nat, k ≤ n ∧ i = .int .i64 k ∧ Made w wr n k Q U) (fun i _ => n - (intOf i).toNat)
  case atStart => exact ⟨0, Nat.zero_le _, rfl, made_start w n Q U⟩
  case round =>
    obtain ⟨k, hk, rfl, hM⟩ := hrel
    by_cases hlt : k < n
    · obtain ⟨hao, c0, c1⟩ := hc k hlt
      subst hao
      have hB := hM.2.2.2
      have hbl : b < w.heap.size := World.block_lt_of_cell? _ _ c0
      have c0r : wr.cell? ⟨b, off + k * 2, none⟩ = some (.int .i64 (Q k)) := (hB.cell hbl).trans c0
      have c1r : wr.cell? ⟨b, off + k * 2 + 1, none⟩ = some (.int .i64 (U k)) := (hB.cell hbl).trans c1
      have f0 : ∀ o, (wr.alloc o).frozen? ⟨w.heap.size, k, none⟩ = false := fun o => (hM.2.1.alloc o).frozen k
      have f1 : ∀ o, (wr.alloc o).cell? ⟨w.heap.size, k, none⟩ = some (.pointer none) := fun o => by rw [(hM.2.1.alloc o).cell hlt]; simp
      have HM : Hid (Made w wr n k Q U) := hM
      have HS := made_step hlt hM
      clear hM hB hc c0 c1
      go_wp2
      go_region
      go_wp2
      go_roundw
      case rel => exact ⟨k + 1, by omega, by go_num, HS⟩
      case measure => simp [intOf]; omega
    · have hkn : k = n := by omega
      subst hkn
      go_wp2
      go_ret
      obtain ⟨h1, h2, h3, h4⟩ := hM
      refine ⟨rfl, ⟨fun j => w.heap.size + 1 + j, fun j hj => ⟨?_, h3 j hj⟩⟩, h4⟩
      rw [Nat.zero_add, h2.cell hj, if_pos hj]

end Go.Proofs.Qxb6623471a

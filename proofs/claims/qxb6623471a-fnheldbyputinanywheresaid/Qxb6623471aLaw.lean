/-
  The walk of the law itself.
-/
import Derived.Test.Qxb6623471aChain
import Derived.Deep.RegionLaw
import Derived.OwnWalk
namespace Go.Proofs.Qxb6623471a
open Go.RowKit

/-! ### zzBytes -/
set_option maxRecDepth 100000 in
set_option maxHeartbeats 400000 in
theorem bytes_true (ao bo : Option Addr) (na nb ca cb : Nat) (q u g : Int) (h : na + nb ≤ 1048576) (w : World) :
    Calls Try.prog 4 #[.slice ao na ca, .agg #[.int .i64 q, .int .i64 u], .slice bo nb cb, .int .i64 g] w fun e w' => e = .returned (.bool true) ∧ w' = w.alloc (.cells #[.int .i64 q, .int .i64 u] 24) := by
  go_enter Try.func4, Try.ntmps4
  go_wp2
  go_ret
  exact ⟨rfl, rfl⟩

set_option maxRecDepth 100000 in
set_option maxHeartbeats 400000 in
theorem bytes_false (ao bo : Option Addr) (na nb ca cb : Nat) (q u g : Int) (h : 1048576 < na + nb) (ha : na ≤ 9223372036854775807) (hb : nb ≤ 9223372036854775807) (w : World) :
    Calls Try.prog 4 #[.slice ao na ca, .agg #[.int .i64 q, .int .i64 u], .slice bo nb cb, .int .i64 g] w fun e w' => e = .returned (.bool false) ∧ w' = w.alloc (.cells #[.int .i64 q, .int .i64 u] 24) := by
  by_cases h1 : 1048576 < na
  · go_enter Try.func4, Try.ntmps4
    go_wp2
    go_ret
    exact ⟨rfl, rfl⟩
  · by_cases h2 : 1048576 < nb
    · go_enter Try.func4, Try.ntmps4
      go_wp2
      go_ret
      exact ⟨rfl, rfl⟩
    · go_enter Try.func4, Try.ntmps4
      go_wp2
      go_ret
      exact ⟨rfl, rfl⟩

/-! ### a row that is appended to, within its room -/
/-- block N is a row of n pointer cells; the first k lead to links (Q j, U j). -/
def Row (wr : World) (N n k : Nat) (Q U : Nat → Int) : Prop :=
  ∃ (F : Nat → Value) (A : Nat → Nat), wr.rowIs N 28 n F ∧ ∀ j, j < k → F j = .pointer (some ⟨A j, 0, none⟩) ∧ A j ≠ N ∧ wr.cell? ⟨A j, 0, none⟩ = some (.int .i64 (Q j)) ∧ wr.cell? ⟨A j, 1, none⟩ = some (.int .i64 (U j))

theorem row_start (w : World) (n : Nat) (Q U : Nat → Int) : Row (w.alloc (.cells (madeCells #[.pointer none] n) 28)) w.heap.size n 0 Q U :=
  ⟨_, fun _ => 0, World.rowIs_made w (.pointer none) n 28, fun j hj => absurd hj (by omega)⟩

theorem row_drew {wr : World} {N n k : Nat} {Q U : Nat → Int} (h : Row wr N n k Q U) : Row wr.drew N n k Q U := h

theorem row_lt {wr : World} {N n k : Nat} {Q U : Nat → Int} (h : Row wr N n k Q U) : N < wr.heap.size := by
  obtain ⟨F, A, h1, _⟩ := h
  exact h1.lt

theorem far_cell {wr : World} {N k a x : Nat} {y : Value} (o1 o2 : Obj) (v : Value) (h : a ≠ N) (h2 : (wr.alloc o1).cell? ⟨a, x, none⟩ = some y) :
    (((wr.alloc o1).alloc o2).setCell ⟨N, k, none⟩ v).cell? ⟨a, x, none⟩ = some y := by
  have hne : (⟨N, k, none⟩ : Addr) ≠ ⟨a, x, none⟩ := fun e => h (by have := congrArg Addr.block e; simp at this; omega)
  rw [World.cell?_setCell_other _ _ _ _ hne, World.cell?_alloc_lt _ _ _ (World.block_lt_of_cell? _ _ h2)]
  exact h2

theorem row_step {wr : World} {N n k : Nat} {Q U : Nat → Int} (h : Row wr N n k Q U) :
    Row (((wr.alloc (.cells #[.int .i64 (Q k), .int .i64 (U k)] 29)).alloc (.cells #[.pointer (some ⟨wr.heap.size, 0, none⟩)] 28)).setCell ⟨N, k, none⟩ (.pointer (some ⟨wr.heap.size, 0, none⟩))) N n (k + 1) Q U := by
  have hlt := row_lt h
  obtain ⟨F, A, h1, h2⟩ := h
  refine ⟨_, fun j => if j = k then wr.heap.size else A j, ((h1.alloc _).alloc _).set k _, fun j hj => ?_⟩
  by_cases e : j = k
  · subst e
    simp only [if_true]
    exact ⟨trivial, by omega, far_cell _ _ _ (by omega) (by rw [World.cell?_alloc_new]; rfl), far_cell _ _ _ (by omega) (by rw [World.cell?_alloc_new]; rfl)⟩
  · obtain ⟨g1, g2, g3, g4⟩ := h2 j (by omega)
    simp only [if_neg e]
    exact ⟨g1, g2, far_cell _ _ _ g2 (by rw [World.cell?_alloc_lt _ _ _ (World.block_lt_of_cell? _ _ g3)]; exact g3), far_cell _ _ _ g2 (by rw [World.cell?_alloc_lt _ _ _ (World.block_lt_of_cell? _ _ g4)]; exact g4)⟩

theorem row_spare {wr : World} {N n k : Nat} {Q U : Nat → Int} (h : Row wr N n k Q U) (hk : k < n) (o1 o2 : Obj) :
    (((wr.alloc o1).alloc o2).cell? ⟨N, k, none⟩).isSome = true ∧ ((wr.alloc o1).alloc o2).frozen? ⟨N, k, none⟩ = false := by
  obtain ⟨F, A, h1, _⟩ := h
  exact ⟨by rw [((h1.alloc o1).alloc o2).cell hk]; rfl, ((h1.alloc o1).alloc o2).frozen k⟩

theorem row_chained {wr : World} {N n : Nat} {Q U : Nat → Int} (h : Row wr N n n Q U) : Chained wr N n Q U := by
  obtain ⟨F, A, h1, h2⟩ := h
  exact ⟨A, fun j hj => ⟨by rw [Nat.zero_add, h1.cell hj, (h2 j hj).1], (h2 j hj).2.2.1, (h2 j hj).2.2.2⟩⟩

/-! ### the ways that return at once -/
set_option maxRecDepth 100000 in
set_option maxHeartbeats 400000 in
theorem law_far (ao bo : Option Addr) (na nb ca cb : Nat) (q u g : Int) (h : 1048576 < na + nb) (ha : na ≤ 9223372036854775807) (hb : nb ≤ 9223372036854775807) (w : World) :
    Calls Try.prog 3 #[.slice ao na ca, .agg #[.int .i64 q, .int .i64 u], .slice bo nb cb, .int .i64 g] w fun e w' => e = .returned (.bool true) ∧ Below w.heap.size w w' := by
  go_enter Try.func3, Try.ntmps3
  go_wp2_with (go_at_call 4; refine (bytes_false _ _ _ _ _ _ _ _ _ h ha hb _).mono ?_; rintro e w' ⟨rfl, rfl⟩)
  go_ret
  exact ⟨rfl, ((Below.refl _ _).alloc (Nat.le_refl _) _).alloc (by simp) _⟩

set_option maxRecDepth 100000 in
set_option maxHeartbeats 400000 in
theorem law_mid (ao bo : Option Addr) (na nb ca cb : Nat) (q u g : Int) (h : na + nb ≤ 1048576) (h2 : 65536 < na + nb) (w : World) :
    Calls Try.prog 3 #[.slice ao na ca, .agg #[.int .i64 q, .int .i64 u], .slice bo nb cb, .int .i64 g] w fun e w' => e = .returned (.bool true) ∧ Below w.heap.size w w' := by
  by_cases h1 : 65536 < na
  · go_enter Try.func3, Try.ntmps3
    go_wp2_with (go_at_call 4; refine (bytes_true _ _ _ _ _ _ _ _ _ h _).mono ?_; rintro e w' ⟨rfl, rfl⟩)
    go_ret
    exact ⟨rfl, ((Below.refl _ _).alloc (Nat.le_refl _) _).alloc (by simp) _⟩
  · by_cases h3 : 65536 < nb
    · go_enter Try.func3, Try.ntmps3
      go_wp2_with (go_at_call 4; refine (bytes_true _ _ _ _ _ _ _ _ _ h _).mono ?_; rintro e w' ⟨rfl, rfl⟩)
      go_ret
      exact ⟨rfl, ((Below.refl _ _).alloc (Nat.le_refl _) _).alloc (by simp) _⟩
    · go_enter Try.func3, Try.ntmps3
      go_wp2_with (go_at_call 4; refine (bytes_true _ _ _ _ _ _ _ _ _ h _).mono ?_; rintro e w' ⟨rfl, rfl⟩)
      go_ret
      exact ⟨rfl, ((Below.refl _ _).alloc (Nat.le_refl _) _).alloc (by simp) _⟩

end Go.Proofs.Qxb6623471a

/-
  The plain side of 'split': the parts as lists of cells, and what each round does.
-/
import Derived.Test.Qxb6623516aRows
import Derived.WalkKit
import Derived.Outline
namespace Go.Proofs.Qxb6623516a
open Go.RowKit

/-- a part: min, max, bounded -/
def cells3 (A B : Nat → Int) (C : Nat → Bool) (n : Nat) : List Value := (List.range n).flatMap fun j => [.int .i64 (A j), .int .i64 (B j), .bool (C j)]

theorem cells3_zero (A B : Nat → Int) (C : Nat → Bool) : cells3 A B C 0 = [] := rfl
theorem cells3_succ (A B : Nat → Int) (C : Nat → Bool) (n : Nat) : cells3 A B C (n + 1) = cells3 A B C n ++ [.int .i64 (A n), .int .i64 (B n), .bool (C n)] := by
  simp [cells3, List.range_succ, List.flatMap_append]
theorem cells3_length (A B : Nat → Int) (C : Nat → Bool) (n : Nat) : (cells3 A B C n).length = n * 3 := by
  induction n with
  | zero => rfl
  | succ n ih => rw [cells3_succ, List.length_append, ih]; simp; omega
theorem cells3_congr {A B A' B' : Nat → Int} {C C' : Nat → Bool} : ∀ (n : Nat), (∀ j, j < n → A j = A' j ∧ B j = B' j ∧ C j = C' j) → cells3 A B C n = cells3 A' B' C' n
  | 0, _ => rfl
  | n + 1, h => by
    rw [cells3_succ, cells3_succ, cells3_congr n (fun j hj => h j (by omega)), (h n (by omega)).1, (h n (by omega)).2.1, (h n (by omega)).2.2]
theorem cells3_at (A B : Nat → Int) (C : Nat → Bool) : ∀ (n j : Nat), j < n → (cells3 A B C n)[j * 3]? = some (.int .i64 (A j)) ∧ (cells3 A B C n)[j * 3 + 1]? = some (.int .i64 (B j)) ∧ (cells3 A B C n)[j * 3 + 2]? = some (.bool (C j))
  | n + 1, j, h => by
    rw [cells3_succ]
    by_cases e : j < n
    · have hl := cells3_length A B C n
      rw [List.getElem?_append_left (by omega), List.getElem?_append_left (by omega), List.getElem?_append_left (by omega)]
      exact cells3_at A B C n j e
    · have e2 : j = n := by omega
      subst e2
      have hl := cells3_length A B C j
      rw [List.getElem?_append_right (by omega), List.getElem?_append_right (by omega), List.getElem?_append_right (by omega), hl, Nat.sub_self, show j * 3 + 1 - j * 3 = 1 by omega, show j * 3 + 2 - j * 3 = 2 by omega]
      exact ⟨rfl, rfl, rfl⟩

theorem Try.info30 : (Try.prog.info? 30).map (fun i => (i.zero, i.size, i.bytes)) = some (some (.agg #[.int .i64 0, .int .i64 0, .bool false]), 3, 24) := by kernel_rfl
theorem Try.info3 : (Try.prog.info? 3).map (fun i => (i.zero, i.size, i.bytes)) = some (some (.int .i64 0), 1, 8) := by kernel_rfl
theorem Try.info4 : (Try.prog.info? 4).map (fun i => (i.zero, i.size, i.bytes)) = some (some (.bool false), 1, 1) := by kernel_rfl

/-! ### products, kept from omega -/
theorem mul_succ' (i : Nat) (m : Int) : ((i + 1 : Nat) : Int) * m = (i : Int) * m + m := by
  rw [Int.natCast_add, Int.add_mul]; simp
/-- i * m < 16385 * m: i is small -/
theorem few (i : Nat) (m : Int) (hm : 1 ≤ m) (h : (i : Int) * m < 16385 * m) : i < 16385 := by
  have := Int.lt_of_mul_lt_mul_right h (by omega)
  omega

/-! ### the bounded parts -/
/-- what is left of the least count behind T -/
def rest (qmin T : Int) : Int := if T = 0 then qmin else if 0 < qmin then max 0 (qmin - T) else 0
def hiAt (qmax most T : Int) : Int := min most (qmax - T)
def loAt (qmin qmax most T : Int) : Int := min (hiAt qmax most T) (rest qmin T)

theorem rest_step (qmin qmax most T : Int) (hm : 1 ≤ most) (hT : 0 ≤ T) (h : most < qmax - T) : rest qmin T - loAt qmin qmax most T = rest qmin (T + most) := by
  unfold loAt hiAt rest
  rw [if_neg (show ¬ T + most = 0 by omega)]
  split <;> split <;> omega

end Go.Proofs.Qxb6623516a

/-
  The walk of 'splitCount', and the plain laws on how many parts there are.
-/
import Derived.Test.Qxb6623516aThree
namespace Go.Proofs.Qxb6623516a
open Go.RowKit
set_option linter.unusedVariables false

theorem ret_int {k : IntKind} {a b : Int} (h : a = b) : Ending.returned (.int k a) = .returned (.int k b) := by rw [h]

/-- splitCount -/
def cnt (total most : Int) : Int := if total ≤ 0 then 0 else if total % most = 0 then total / most else total / most + 1

theorem cnt_none (total most : Int) (h : total ≤ 0) : cnt total most = 0 := by simp [cnt, h]
theorem cnt_even (total most : Int) (h : 0 < total) (h2 : total % most = 0) : cnt total most = total / most := by simp [cnt, h2]; omega
theorem cnt_odd (total most : Int) (h : 0 < total) (h2 : ¬ total % most = 0) : cnt total most = total / most + 1 := by simp [cnt, h2]; omega

set_option maxHeartbeats 400000 in
theorem count6 (total most : Int) (hm : 1 ≤ most) (l2 : total ≤ 9223372036854775807) (hd : total / most ≤ 16384) (w : World) :
    Calls Try.prog 6 #[.int .i64 total, .int .i64 most] w fun e w' => e = .returned (.int .i64 (cnt total most)) ∧ w' = w := by
  by_cases hp : 0 < total
  · have h0 : 0 ≤ total / most := Int.ediv_nonneg (by omega) (by omega)
    by_cases h2 : total % most = 0
    · have K : Hid _ := cnt_even total most hp h2
      have t : (total % most != 0) = false := by simp [h2]
      clear h2
      go_enter Try.func6, Try.ntmps6
      go_wp2
      go_ret
      exact ⟨ret_int K.out.symm, rfl⟩
    · have K : Hid _ := cnt_odd total most hp h2
      have t : (total % most != 0) = true := by simpa using h2
      clear h2
      go_enter Try.func6, Try.ntmps6
      go_wp2
      go_ret
      exact ⟨ret_int K.out.symm, rfl⟩
  · have K : Hid _ := cnt_none total most (by omega)
    go_enter Try.func6, Try.ntmps6
    go_wp2
    go_ret
    exact ⟨ret_int K.out.symm, rfl⟩

/-! ### plain: how many -/
theorem tdiv_small (q m : Int) (hm : 1 ≤ m) (h : q.tdiv m ≤ 16384) : q < 16385 * m := by
  by_cases hq : 0 ≤ q
  · rw [Int.tdiv_eq_ediv_of_nonneg hq] at h
    exact (Int.ediv_lt_iff_lt_mul (by omega)).1 (by omega)
  · omega
theorem div_small (q m : Int) (hm : 1 ≤ m) (h : q.tdiv m ≤ 16384) : q / m ≤ 16384 := by
  have := (Int.ediv_lt_iff_lt_mul (a := q) (b := 16385) (c := m) (by omega)).2 (tdiv_small q m hm h)
  omega

theorem cnt_is (q m : Int) (k : Nat) (hm : 1 ≤ m) (h1 : q ≤ (k : Int) * m) (h2 : k = 0 ∨ (k : Int) * m - m < q) : cnt q m = k := by
  have hk : (k : Int) * m - m = ((k : Int) - 1) * m := by rw [Int.sub_mul]; omega
  rw [hk] at h2
  by_cases hq : q ≤ 0
  · rw [cnt_none q m hq]
    rcases Nat.eq_zero_or_pos k with rfl | hk1
    · rfl
    · exfalso
      have := Int.mul_nonneg (a := (k : Int) - 1) (b := m) (by omega) (by omega)
      omega
  · have hk1 : k ≠ 0 := fun e => by subst e; simp at h1; omega
    have h3 : ((k : Int) - 1) * m < q := by omega
    have hd := Int.emod_add_mul_ediv q m
    have hr1 := Int.emod_nonneg q (show m ≠ 0 by omega)
    have hr2 := Int.emod_lt_of_pos q (show 0 < m by omega)
    have hcomm : m * (q / m) = (q / m) * m := Int.mul_comm _ _
    by_cases hz : q % m = 0
    · rw [cnt_even q m (by omega) hz]
      have a1 : (q / m) * m ≤ (k : Int) * m := by omega
      have a2 : ((k : Int) - 1) * m < (q / m) * m := by omega
      have b1 := Int.le_of_mul_le_mul_right a1 (by omega)
      have b2 := Int.lt_of_mul_lt_mul_right a2 (by omega)
      omega
    · rw [cnt_odd q m (by omega) hz]
      have e1 : (q / m + 1) * m = (q / m) * m + m := by rw [Int.add_mul]; omega
      have a1 : (q / m) * m < (k : Int) * m := by omega
      have a2 : ((k : Int) - 1) * m < (q / m + 1) * m := by omega
      have b1 := Int.lt_of_mul_lt_mul_right a1 (by omega)
      have b2 := Int.lt_of_mul_lt_mul_right a2 (by omega)
      omega

theorem un_is (q m : Int) (p : Nat) (hm : 1 ≤ m) (h1 : q - (p : Int) * m ≤ m) (h2 : p = 0 ∨ (p : Int) * m < q) :
    (q ≤ m ∧ p = 0) ∨ (m < q ∧ (q - 1) / m = p) := by
  by_cases hq : q ≤ m
  · left
    refine ⟨hq, ?_⟩
    rcases h2 with h2 | h2
    · exact h2
    · have : (p : Int) * m < 1 * m := by omega
      have := Int.lt_of_mul_lt_mul_right this (by omega)
      omega
  · right
    refine ⟨by omega, ?_⟩
    have h3 : (p : Int) * m < q := by
      rcases h2 with h2 | h2
      · subst h2; simp; omega
      · exact h2
    have e1 : ((p : Int) + 1) * m = (p : Int) * m + m := by rw [Int.add_mul]; omega
    have a1 : (p : Int) ≤ (q - 1) / m := (Int.le_ediv_iff_mul_le (by omega)).2 (by omega)
    have a2 : (q - 1) / m < (p : Int) + 1 := (Int.ediv_lt_iff_lt_mul (by omega)).2 (by omega)
    omega

end Go.Proofs.Qxb6623516a

/-
  The walk of 'FnSplitAddsUpWithinWeight': the way of an unbounded quantifier.
-/
import Derived.Test.Qxb6623516aAdds
namespace Go.Proofs.Qxb6623516a
open Go.RowKit
set_option linter.unusedVariables false

set_option maxRecDepth 100000 in
set_option maxHeartbeats 2000000 in
theorem adds_un (qmin qmax most : Int) (hm : 1 ≤ most) (h0 : 0 ≤ qmin) (h : qmin / most ≤ 16384) (l2 : qmin ≤ 9223372036854775807) (hm2 : most ≤ 9223372036854775807) (w : World) :
    Calls Try.prog 4 #[.int .i64 qmin, .int .i64 qmax, .bool false, .int .i64 most] w fun e w' => e = .returned (.bool true) ∧ Below w.heap.size w w' := by
  have ht : qmin.tdiv most ≤ 16384 := by rw [Int.tdiv_eq_ediv_of_nonneg (by omega)]; exact h
  have HZ : Hid (qmin.tdiv most ≤ 16384) := ht
  have t1 : decide (16384 < qmin / most) = false := decide_eq_false (by omega)
  have t2 : decide (most < 1) = false := decide_eq_false (by omega)
  have t3 : decide (qmin < 0) = false := decide_eq_false (by omega)
  clear h ht
  go_enter Try.func4, Try.ntmps4
  go_wp2_with fail
  refine (zz5 qmin qmax most false (SU qmin most) w (split_SU qmin qmax most hm HZ.out (by omega) l2)).mono ?_
  rintro e w' ⟨n, A, B, C, b1, b2, b3, ⟨p, hn, hp, k1, k2, hj, hA, hBp, hCp⟩, hn2, rfl, hc, hB⟩
  have hcp := hc p (by omega)
  rw [hA, hBp, hCp] at hcp
  have HCP : Hid _ := hcp
  have HC : Hid (∀ j, j < p → w'.cell? ⟨b1, j, none⟩ = some (.int .i64 most) ∧ w'.cell? ⟨b2, j, none⟩ = some (.int .i64 most) ∧ w'.cell? ⟨b3, j, none⟩ = some (.bool true)) := fun j hjp => by
    have := hc j (by omega)
    rw [(hj j hjp).1, (hj j hjp).2.1, (hj j hjp).2.2] at this
    exact this
  have HB : Hid _ := hB
  have K1 : Hid _ := k1
  have K2 : Hid _ := k2
  have hn3 : p + 1 ≤ n := by omega
  have hn4 : n ≤ p + 1 := by omega
  clear hc hj hA hBp hCp hB hn hcp k1 k2
  go_wp2_with fail
  go_loopw [13, 14, 15] (fun x y z wr => ∃ (k m : Nat) (U a b : Int), k ≤ n ∧ Hid ((k : Int) * most = U) ∧ x = .int .i64 a ∧ y = .int .i64 b ∧ z = .int .i64 k ∧ Hid (k ≤ p ∧ a = qmin - U ∨ k = p + 1 ∧ a = 0) ∧ wr = w'.drewN m) (fun _ _ z _ => n - (intOf z).toNat)
  case atStart => exact ⟨0, 0, 0, qmin, qmax, Nat.zero_le _, by show ((0 : Nat) : Int) * most = 0; simp, rfl, rfl, rfl, .inl ⟨Nat.zero_le _, by omega⟩, rfl⟩
  case round =>
    obtain ⟨i, m, U, a, b, hk, HU, rfl, rfl, rfl, Ha, rfl⟩ := hrel
    have HU' : Hid (((i + 1 : Nat) : Int) * most = U + most) := by
      show ((i + 1 : Nat) : Int) * most = U + most
      rw [mul_succ', HU.out]
    by_cases hlt : i < p
    · obtain ⟨d1, d2, d3⟩ := HC.out i hlt
      have hU0 : 0 ≤ U := by rw [← HU.out]; exact Int.mul_nonneg (by omega) (by omega)
      have hUp : U + most < qmin := by
        have h1 : ((i + 1 : Nat) : Int) * most ≤ (p : Int) * most := Int.mul_le_mul_of_nonneg_right (by omega) (by omega)
        have := HU'.out
        have := K2.out
        omega
      have ea : a = qmin - U := by have := Ha.out; omega
      have tl : ((i : Int) == (n : Int) - 1) = false := by rw [beq_eq_false_iff_ne]; omega
      have hin : i < n := by omega
      have Ha' : Hid (i + 1 ≤ p ∧ a - most = qmin - (U + most) ∨ i + 1 = p + 1 ∧ a - most = 0) := .inl ⟨by omega, by omega⟩
      have a1 : most < a := by omega
      have a2 : a ≤ qmin := by omega
      have s1 : decide (most < 0) = false := decide_eq_false (by omega)
      clear ea Ha hU0 hUp
      go_wp2
      go_quiet (fail)
      go_wp2
      go_roundw
      case rel => exact ⟨i + 1, _, U + most, a - most, _, by omega, HU', by go_num, rfl, by go_num, Ha'.out, rfl⟩
      case measure => simp [intOf]; omega
    · by_cases hip : i = p
      · subst hip
        obtain ⟨d1, d2, d3⟩ := HCP.out
        rw [HU.out] at d1
        have ea : a = qmin - U := by have := Ha.out; omega
        subst ea
        have y1 : 0 ≤ qmin - U := by
          have := HU.out
          rcases K2.out with h | h
          · subst h; simp at this; omega
          · omega
        have y2 : qmin - U ≤ most := by have := HU.out; have := K1.out; omega
        have y3 : 0 ≤ U := by rw [← HU.out]; exact Int.mul_nonneg (by omega) (by omega)
        have tl : ((i : Int) == (n : Int) - 1) = true := by rw [beq_iff_eq]; omega
        have hin : i < n := by omega
        clear Ha
        go_wp2
        go_roundw
        case rel => exact ⟨i + 1, m, U + most, 0, b, by omega, HU', by go_num, rfl, by go_num, .inr ⟨rfl, rfl⟩, rfl⟩
        case measure => simp [intOf]; omega
      · have hin : i = n := by omega
        obtain rfl : a = 0 := by have := Ha.out; omega
        subst hin
        have hge : decide ((1 : Int) ≤ (i : Int)) = true := decide_eq_true (by omega)
        clear Ha
        go_wp2
        go_ret
        exact ⟨rfl, below_drewN HB.out _⟩

end Go.Proofs.Qxb6623516a

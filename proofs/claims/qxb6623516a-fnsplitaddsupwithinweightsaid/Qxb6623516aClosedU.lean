/-
  The walk of 'FnSplitClosedForm': the early ways, and the way of an unbounded quantifier.
-/
import Derived.Test.Qxb6623516aCount
namespace Go.Proofs.Qxb6623516a
open Go.RowKit
set_option linter.unusedVariables false

/-! ### the ways that return at once -/
set_option maxRecDepth 100000 in
set_option maxHeartbeats 400000 in
theorem closed_small (qmin qmax most : Int) (bd : Bool) (hm : most < 1) (w : World) :
    Calls Try.prog 3 #[.int .i64 qmin, .int .i64 qmax, .bool bd, .int .i64 most] w fun e w' => e = .returned (.bool true) ∧ Below w.heap.size w w' := by
  go_enter Try.func3, Try.ntmps3
  go_wp2
  go_ret
  exact ⟨rfl, Below.refl _ _⟩

set_option maxRecDepth 100000 in
set_option maxHeartbeats 400000 in
theorem closed_farB (qmin qmax most : Int) (hm : 1 ≤ most) (m1 : -9223372036854775808 ≤ qmax) (m2 : qmax ≤ 9223372036854775807) (h : 16384 < qmax.tdiv most) (w : World) :
    Calls Try.prog 3 #[.int .i64 qmin, .int .i64 qmax, .bool true, .int .i64 most] w fun e w' => e = .returned (.bool true) ∧ Below w.heap.size w w' := by
  go_enter Try.func3, Try.ntmps3
  go_wp2
  go_ret
  exact ⟨rfl, Below.refl _ _⟩

set_option maxRecDepth 100000 in
set_option maxHeartbeats 400000 in
theorem closed_farU (qmin qmax most : Int) (hm : 1 ≤ most) (l1 : -9223372036854775808 ≤ qmin) (l2 : qmin ≤ 9223372036854775807) (h : 16384 < qmin.tdiv most) (w : World) :
    Calls Try.prog 3 #[.int .i64 qmin, .int .i64 qmax, .bool false, .int .i64 most] w fun e w' => e = .returned (.bool true) ∧ Below w.heap.size w w' := by
  go_enter Try.func3, Try.ntmps3
  go_wp2
  go_ret
  exact ⟨rfl, Below.refl _ _⟩

/-- what the unbounded parts are -/
def SU (qmin most : Int) (n : Nat) (A B : Nat → Int) (C : Nat → Bool) : Prop :=
  ∃ p : Nat, n = p + 1 ∧ p < 16385 ∧ qmin - (p : Int) * most ≤ most ∧ (p = 0 ∨ (p : Int) * most < qmin) ∧
    (∀ j, j < p → A j = most ∧ B j = most ∧ C j = true) ∧ A p = qmin - (p : Int) * most ∧ B p = 0 ∧ C p = false

theorem split_SU (qmin qmax most : Int) (hm : 1 ≤ most) (h : qmin.tdiv most ≤ 16384) (l1 : -9223372036854775808 ≤ qmin) (l2 : qmin ≤ 9223372036854775807) (w : World) :
    Calls Try.prog 7 #[.agg #[.int .i64 qmin, .int .i64 qmax, .bool false], .int .i64 most] w fun e w' =>
      ∃ n A B C v, SU qmin most n A B C ∧ n ≤ 20000 ∧ e = .returned v ∧ w'.ownsRow w.heap.size 30 3 v n (cells3 A B C n) ∧ Below w.heap.size w w' := by
  refine (split_un qmin qmax most hm (tdiv_small _ _ hm h) l1 l2 w).mono ?_
  rintro e w' ⟨p, v, hp, h1, h2, rfl, h3, h4⟩
  exact ⟨p + 1, _, _, _, v, ⟨p, rfl, hp, h1, h2, fun j hj => by simp [hj], by simp, by simp, by simp⟩, by omega, rfl, h3, h4⟩

set_option maxRecDepth 100000 in
set_option maxHeartbeats 1000000 in
theorem closed_un (qmin qmax most : Int) (hm : 1 ≤ most) (h : qmin.tdiv most ≤ 16384) (l1 : -9223372036854775808 ≤ qmin) (l2 : qmin ≤ 9223372036854775807) (w : World) :
    Calls Try.prog 3 #[.int .i64 qmin, .int .i64 qmax, .bool false, .int .i64 most] w fun e w' => e = .returned (.bool true) ∧ Below w.heap.size w w' := by
  have HZ : Hid (qmin.tdiv most ≤ 16384) := h
  have t1 : decide (16384 < qmin.tdiv most) = false := decide_eq_false (by omega)
  have t5 : decide (most < 1) = false := decide_eq_false (by omega)
  clear h
  go_enter Try.func3, Try.ntmps3
  go_wp2_with fail
  refine (zz5 qmin qmax most false (SU qmin most) w (split_SU qmin qmax most hm HZ.out l1 l2)).mono ?_
  rintro e w' ⟨n, A, B, C, b1, b2, b3, ⟨p, rfl, hp, k1, k2, hj, hA, hBp, hCp⟩, hn, rfl, hc, hB⟩
  clear HZ
  have hcp := hc p (by omega)
  rw [hA, hBp, hCp] at hcp
  obtain ⟨c1, c2, c3⟩ := hcp
  have HC : Hid (∀ j, j < p → w'.cell? ⟨b1, j, none⟩ = some (.int .i64 most) ∧ w'.cell? ⟨b2, j, none⟩ = some (.int .i64 most) ∧ w'.cell? ⟨b3, j, none⟩ = some (.bool true)) := fun j hjp => by
    have := hc j (by omega)
    rw [(hj j hjp).1, (hj j hjp).2.1, (hj j hjp).2.2] at this
    exact this
  have HB : Hid _ := hB
  clear hc hj hA hBp hCp hB hn
  rcases un_is qmin most p hm k1 k2 with ⟨hq, rfl⟩ | ⟨hq, hP⟩
  · clear k1 k2 HC
    simp only [Int.natCast_zero, Int.zero_mul, Int.sub_zero] at c1
    go_wp2_with fail
    refine wp_loop_rounds 1 ?_
    rw [rounds_succ]
    go_wp2
    go_ret
    exact ⟨rfl, HB.out⟩
  · have hpm : (p : Int) * most < qmin := by
      rcases k2 with rfl | k2
      · simp; omega
      · exact k2
    have hpm0 : 0 ≤ (p : Int) * most := Int.mul_nonneg (by omega) (by omega)
    clear k1 k2
    go_wp2_with fail
    go_loop [13] (fun i => ∃ k : Nat, k ≤ p ∧ i = .int .i64 k) (fun i => p - (intOf i).toNat)
    case atStart => exact ⟨0, Nat.zero_le _, rfl⟩
    case round =>
      obtain ⟨k, hk, rfl⟩ := hrel
      by_cases hlt : k < p
      · obtain ⟨d1, d2, d3⟩ := HC.out k hlt
        go_wp2
        go_round
        case rel => exact ⟨k + 1, by omega, by go_num⟩
        case measure => simp [intOf]; omega
      · go_wp2
        go_ret
        exact ⟨rfl, HB.out⟩

end Go.Proofs.Qxb6623516a

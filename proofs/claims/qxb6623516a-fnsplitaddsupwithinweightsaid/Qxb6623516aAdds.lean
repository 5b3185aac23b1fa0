/-
  The walk of 'FnSplitAddsUpWithinWeight'.
-/
import Derived.Test.Qxb6623516aClosedB
namespace Go.Proofs.Qxb6623516a
open Go.RowKit
set_option linter.unusedVariables false

/-! ### the ways that return at once -/
set_option maxRecDepth 100000 in
set_option maxHeartbeats 400000 in
theorem adds_out (qmin qmax most : Int) (bd : Bool) (h : most < 1 ∨ 1 ≤ most ∧ qmin < 0) (w : World) :
    Calls Try.prog 4 #[.int .i64 qmin, .int .i64 qmax, .bool bd, .int .i64 most] w fun e w' => e = .returned (.bool true) ∧ Below w.heap.size w w' := by
  rcases h with h | ⟨h1, h2⟩
  · go_enter Try.func4, Try.ntmps4
    go_wp2
    go_ret
    exact ⟨rfl, Below.refl _ _⟩
  · go_enter Try.func4, Try.ntmps4
    go_wp2
    go_ret
    exact ⟨rfl, Below.refl _ _⟩

set_option maxRecDepth 100000 in
set_option maxHeartbeats 400000 in
theorem adds_farB (qmin qmax most : Int) (hm : 1 ≤ most) (h0 : 0 ≤ qmin) (m1 : -9223372036854775808 ≤ qmax) (m2 : qmax ≤ 9223372036854775807) (h : qmax < qmin ∨ qmin ≤ qmax ∧ 16384 < qmax / most) (w : World) :
    Calls Try.prog 4 #[.int .i64 qmin, .int .i64 qmax, .bool true, .int .i64 most] w fun e w' => e = .returned (.bool true) ∧ Below w.heap.size w w' := by
  rcases h with h | ⟨h1, h2⟩
  · go_enter Try.func4, Try.ntmps4
    go_wp2
    go_ret
    exact ⟨rfl, Below.refl _ _⟩
  · go_enter Try.func4, Try.ntmps4
    go_wp2
    go_ret
    exact ⟨rfl, Below.refl _ _⟩

set_option maxRecDepth 100000 in
set_option maxHeartbeats 400000 in
theorem adds_farU (qmin qmax most : Int) (hm : 1 ≤ most) (h0 : 0 ≤ qmin) (l2 : qmin ≤ 9223372036854775807) (h : 16384 < qmin / most) (w : World) :
    Calls Try.prog 4 #[.int .i64 qmin, .int .i64 qmax, .bool false, .int .i64 most] w fun e w' => e = .returned (.bool true) ∧ Below w.heap.size w w' := by
  go_enter Try.func4, Try.ntmps4
  go_wp2
  go_ret
  exact ⟨rfl, Below.refl _ _⟩

/-! ### a bounded quantifier -/
theorem bd_round (qmin qmax most : Int) (n i : Nat) (U a b : Int) (hm : 1 ≤ most) (h0 : 0 ≤ qmin) (hq : qmin ≤ qmax) (h1 : qmax ≤ (n : Int) * most) (h2 : n = 0 ∨ (n : Int) * most - most < qmax) (hi : i < n)
    (hU : (i : Int) * most = U) (ha : a = max 0 (qmin - U)) (hb : b = max 0 (qmax - U)) :
    ∃ lv hv : Int, loI qmin qmax most i = lv ∧ hiI qmax most i = hv ∧ 0 ≤ lv ∧ lv ≤ most ∧ lv ≤ hv ∧ hv ≤ most ∧ lv ≤ a ∧ a ≤ qmin ∧ hv ≤ b ∧ b ≤ qmax ∧
      a - lv = max 0 (qmin - (U + most)) ∧ b - hv = max 0 (qmax - (U + most)) := by
  obtain ⟨U', lv, hv, rv, hU', e1, e2, u0, u1, hz, hh, e3, e4⟩ := part_facts qmin qmax most n i hm h1 h2 hi
  have hUU : U' = U := hU'.symm.trans hU
  subst hUU
  have hhv : hv = min most (qmax - U') := by
    have := e2.symm
    unfold hiI hiAt at this
    rw [hU'] at this
    exact this
  have hr : rv = max 0 (qmin - U') := by
    rw [e3]
    unfold rest
    split
    · omega
    · split <;> omega
  clear e3 hz hh h1 h2 hU' hU
  refine ⟨lv, hv, e1, e2, ?_, ?_, ?_, ?_, ?_, ?_, ?_, ?_, ?_, ?_⟩ <;> omega

set_option maxRecDepth 100000 in
set_option maxHeartbeats 2000000 in
theorem adds_bd (qmin qmax most : Int) (hm : 1 ≤ most) (h0 : 0 ≤ qmin) (hq : qmin ≤ qmax) (h : qmax / most ≤ 16384) (m2 : qmax ≤ 9223372036854775807) (hm2 : most ≤ 9223372036854775807) (w : World) :
    Calls Try.prog 4 #[.int .i64 qmin, .int .i64 qmax, .bool true, .int .i64 most] w fun e w' => e = .returned (.bool true) ∧ Below w.heap.size w w' := by
  have ht : qmax.tdiv most ≤ 16384 := by rw [Int.tdiv_eq_ediv_of_nonneg (by omega)]; exact h
  have HZ : Hid (qmax.tdiv most ≤ 16384) := ht
  have t1 : decide (16384 < qmax / most) = false := decide_eq_false (by omega)
  have t2 : decide (most < 1) = false := decide_eq_false (by omega)
  have t3 : decide (qmin < 0) = false := decide_eq_false (by omega)
  have t4 : decide (qmax < qmin) = false := decide_eq_false (by omega)
  clear h ht
  go_enter Try.func4, Try.ntmps4
  go_wp2_with fail
  refine (zz5 qmin qmax most true (SB qmin qmax most) w (split_SB qmin qmax most hm HZ.out (by omega) (by omega) (by omega) m2 hm2)).mono ?_
  rintro e w' ⟨n, A, B, C, b1, b2, b3, ⟨hn, k1, k2, hj⟩, _, rfl, hc, hB⟩
  have HC : Hid (∀ j, j < n → w'.cell? ⟨b1, j, none⟩ = some (.int .i64 (loI qmin qmax most j)) ∧ w'.cell? ⟨b2, j, none⟩ = some (.int .i64 (hiI qmax most j)) ∧ w'.cell? ⟨b3, j, none⟩ = some (.bool true)) := fun j hjp => by
    have := hc j (by omega)
    rw [(hj j hjp).1, (hj j hjp).2.1, (hj j hjp).2.2] at this
    exact this
  have HB : Hid _ := hB
  have K1 : Hid _ := k1
  have K2 : Hid _ := k2
  have HN : Hid _ := cnt_is qmax most n hm k1 k2
  clear hc hj hB k1 k2
  go_wp2_with fail
  go_loopw [13, 14, 15] (fun x y z wr => ∃ (k m : Nat) (U a b : Int), k ≤ n ∧ Hid ((k : Int) * most = U) ∧ x = .int .i64 a ∧ y = .int .i64 b ∧ z = .int .i64 k ∧ Hid (a = max 0 (qmin - U)) ∧ Hid (b = max 0 (qmax - U)) ∧ wr = w'.drewN m) (fun _ _ z _ => n - (intOf z).toNat)
  case atStart => exact ⟨0, 0, 0, qmin, qmax, Nat.zero_le _, by show ((0 : Nat) : Int) * most = 0; simp, rfl, rfl, rfl, by show qmin = _; omega, by show qmax = _; omega, rfl⟩
  case round =>
    obtain ⟨i, m, U, a, b, hk, HU, rfl, rfl, rfl, Ha, Hb, rfl⟩ := hrel
    by_cases hlt : i < n
    · obtain ⟨d1, d2, d3⟩ := HC.out i hlt
      obtain ⟨lv, hv, e1, e2, x1, x2, x3, x4, x5, x6, x7, x8, x9, x10⟩ := bd_round qmin qmax most n i U a b hm h0 hq K1.out K2.out hlt HU.out Ha.out Hb.out
      rw [e1] at d1
      rw [e2] at d2
      have X9 : Hid _ := x9
      have X10 : Hid _ := x10
      have HU' : Hid (((i + 1 : Nat) : Int) * most = U + most) := by
        show ((i + 1 : Nat) : Int) * most = U + most
        rw [mul_succ', HU.out]
      have s1 : decide (lv < 0) = false := decide_eq_false (by omega)
      have s2 : decide (most < lv) = false := decide_eq_false (by omega)
      have s3 : decide (hv < lv) = false := decide_eq_false (by omega)
      have s4 : decide (most < hv) = false := decide_eq_false (by omega)
      clear e1 e2 x9 x10
      go_wp2
      go_quiet (fail)
      go_wp2
      go_roundw
      case rel => exact ⟨i + 1, _, U + most, a - lv, b - hv, by omega, HU', by go_num, by go_num, by go_num, X9.out, X10.out, rfl⟩
      case measure => simp [intOf]; omega
    · have hin : i = n := by omega
      subst hin
      obtain rfl : a = 0 := by have := Ha.out; have := HU.out; have := K1.out; omega
      obtain rfl : b = 0 := by have := Hb.out; have := HU.out; have := K1.out; omega
      clear Ha Hb
      go_wp2_with fail
      refine (count6 qmax most hm m2 (div_small _ _ hm HZ.out) _).mono ?_
      rintro e w'' ⟨rfl, hw⟩
      rw [hw, HN.out]
      clear hw w''
      go_wp2_with fail
      go_ret
      exact ⟨rfl, below_drewN HB.out _⟩

end Go.Proofs.Qxb6623516a

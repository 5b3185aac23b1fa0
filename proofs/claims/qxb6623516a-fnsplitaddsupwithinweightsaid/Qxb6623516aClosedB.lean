/-
  The walk of 'FnSplitClosedForm': the way of a bounded quantifier.
-/
import Derived.Test.Qxb6623516aClosedU
namespace Go.Proofs.Qxb6623516a
open Go.RowKit
set_option linter.unusedVariables false

/-- what the bounded parts are -/
def SB (qmin qmax most : Int) (n : Nat) (A B : Nat → Int) (C : Nat → Bool) : Prop :=
  n < 16386 ∧ qmax ≤ (n : Int) * most ∧ (n = 0 ∨ (n : Int) * most - most < qmax) ∧ (∀ j, j < n → A j = loI qmin qmax most j ∧ B j = hiI qmax most j ∧ C j = true)

theorem split_SB (qmin qmax most : Int) (hm : 1 ≤ most) (h : qmax.tdiv most ≤ 16384) (l1 : -9223372036854775808 ≤ qmin) (l2 : qmin ≤ 9223372036854775807) (m1 : -9223372036854775808 ≤ qmax) (m2 : qmax ≤ 9223372036854775807) (hm2 : most ≤ 9223372036854775807) (w : World) :
    Calls Try.prog 7 #[.agg #[.int .i64 qmin, .int .i64 qmax, .bool true], .int .i64 most] w fun e w' =>
      ∃ n A B C v, SB qmin qmax most n A B C ∧ n ≤ 20000 ∧ e = .returned v ∧ w'.ownsRow w.heap.size 30 3 v n (cells3 A B C n) ∧ Below w.heap.size w w' := by
  refine (split_bd qmin qmax most hm (tdiv_small _ _ hm h) l1 l2 m1 m2 hm2 w).mono ?_
  rintro e w' ⟨k, v, hk, h1, h2, rfl, h3, h4⟩
  exact ⟨k, _, _, _, v, ⟨hk, h1, h2, fun j _ => ⟨rfl, rfl, rfl⟩⟩, by omega, rfl, h3, h4⟩

/-- the numbers of part i -/
theorem part_facts (qmin qmax most : Int) (n i : Nat) (hm : 1 ≤ most) (h1 : qmax ≤ (n : Int) * most) (h2 : n = 0 ∨ (n : Int) * most - most < qmax) (hi : i < n) :
    ∃ U lv hv rv : Int, (i : Int) * most = U ∧ loI qmin qmax most i = lv ∧ hiI qmax most i = hv ∧ 0 ≤ U ∧ U < qmax ∧ (i = 0 ∧ U = 0 ∨ i ≠ 0 ∧ 0 < U) ∧
      (i + 1 = n ∧ ((n : Int) - 1) * most = U ∧ hv = qmax - U ∨ i + 1 ≠ n ∧ hv = most) ∧ rv = rest qmin U ∧ lv = min hv rv := by
  refine ⟨_, _, _, _, rfl, rfl, rfl, Int.mul_nonneg (by omega) (by omega), ?_, ?_, ?_, rfl, rfl⟩
  · have hn : (n : Int) * most - most < qmax := by omega
    have e : (n : Int) * most - most = ((n : Int) - 1) * most := by rw [Int.sub_mul]; omega
    have : (i : Int) * most ≤ ((n : Int) - 1) * most := Int.mul_le_mul_of_nonneg_right (by omega) (by omega)
    omega
  · by_cases h : i = 0
    · left; subst h; simp
    · right; exact ⟨h, Int.mul_pos (by omega) (by omega)⟩
  · have hn : (n : Int) * most - most < qmax := by omega
    have e : (n : Int) * most - most = ((n : Int) - 1) * most := by rw [Int.sub_mul]; omega
    by_cases h : i + 1 = n
    · left
      have ei : (i : Int) = (n : Int) - 1 := by omega
      refine ⟨h, by rw [ei], ?_⟩
      unfold hiI hiAt
      rw [ei]
      omega
    · right
      refine ⟨h, ?_⟩
      unfold hiI hiAt
      have e2 : ((i : Int) + 1) * most = (i : Int) * most + most := by rw [Int.add_mul]; omega
      have : ((i : Int) + 1) * most ≤ ((n : Int) - 1) * most := Int.mul_le_mul_of_nonneg_right (by omega) (by omega)
      omega

/-- the same in the walk's own words: three choices -/
theorem part_ways (qmin qmax most : Int) (n i : Nat) (hm : 1 ≤ most) (h1 : qmax ≤ (n : Int) * most) (h2 : n = 0 ∨ (n : Int) * most - most < qmax) (hi : i < n) :
    ∃ U lv hv rv : Int, (i : Int) * most = U ∧ loI qmin qmax most i = lv ∧ hiI qmax most i = hv ∧ 0 ≤ U ∧ U < qmax ∧
      (((i : Int) == (n : Int) - 1) = true ∧ ((n : Int) - 1) * most = U ∧ hv ≤ qmax - U ∧ qmax - U ≤ hv ∨ ((i : Int) == (n : Int) - 1) = false ∧ hv ≤ most ∧ most ≤ hv) ∧
      (((i : Int) == 0) = true ∧ rv ≤ qmin ∧ qmin ≤ rv ∨ ((i : Int) == 0) = false ∧ qmin ≤ 0 ∧ rv ≤ 0 ∧ 0 ≤ rv ∨ ((i : Int) == 0) = false ∧ 0 < qmin ∧ qmin - U < 0 ∧ rv ≤ 0 ∧ 0 ≤ rv ∨ ((i : Int) == 0) = false ∧ 0 < qmin ∧ 0 ≤ qmin - U ∧ rv ≤ qmin - U ∧ qmin - U ≤ rv) ∧
      (hv < rv ∧ lv ≤ hv ∧ hv ≤ lv ∨ rv ≤ hv ∧ lv ≤ rv ∧ rv ≤ lv) := by
  obtain ⟨U, lv, hv, rv, hU, e1, e2, u0, u1, hz, hh, e3, e4⟩ := part_facts qmin qmax most n i hm h1 h2 hi
  refine ⟨U, lv, hv, rv, hU, e1, e2, u0, u1, ?_, ?_, ?_⟩
  · rcases hh with ⟨hl, hV, hhv⟩ | ⟨hl, hhv⟩
    · left; exact ⟨by rw [beq_iff_eq]; omega, hV, by omega, by omega⟩
    · right; exact ⟨by rw [beq_eq_false_iff_ne]; omega, by omega, by omega⟩
  · unfold rest at e3
    rcases hz with ⟨hz, hz2⟩ | ⟨hz, hz2⟩
    · rw [if_pos hz2] at e3
      left; exact ⟨by rw [beq_iff_eq]; omega, by omega, by omega⟩
    · rw [if_neg (by omega)] at e3
      have t0 : ((i : Int) == 0) = false := by rw [beq_eq_false_iff_ne]; omega
      right
      by_cases hq : 0 < qmin
      · rw [if_pos hq] at e3
        right
        by_cases hn : qmin - U < 0
        · left; exact ⟨t0, hq, hn, by omega, by omega⟩
        · right; exact ⟨t0, hq, by omega, by omega, by omega⟩
      · rw [if_neg hq] at e3
        left; exact ⟨t0, by omega, by omega, by omega⟩
  · omega

set_option maxRecDepth 100000 in
set_option maxHeartbeats 8000000 in
theorem closed_bd (qmin qmax most : Int) (hm : 1 ≤ most) (h : qmax.tdiv most ≤ 16384) (l1 : -9223372036854775808 ≤ qmin) (l2 : qmin ≤ 9223372036854775807) (m1 : -9223372036854775808 ≤ qmax) (m2 : qmax ≤ 9223372036854775807) (hm2 : most ≤ 9223372036854775807) (w : World) :
    Calls Try.prog 3 #[.int .i64 qmin, .int .i64 qmax, .bool true, .int .i64 most] w fun e w' => e = .returned (.bool true) ∧ Below w.heap.size w w' := by
  have HZ : Hid (qmax.tdiv most ≤ 16384) := h
  have t1 : decide (16384 < qmax.tdiv most) = false := decide_eq_false (by omega)
  have t5 : decide (most < 1) = false := decide_eq_false (by omega)
  clear h
  go_enter Try.func3, Try.ntmps3
  go_wp2_with fail
  refine (zz5 qmin qmax most true (SB qmin qmax most) w (split_SB qmin qmax most hm HZ.out l1 l2 m1 m2 hm2)).mono ?_
  rintro e w' ⟨n, A, B, C, b1, b2, b3, ⟨hn, k1, k2, hj⟩, _, rfl, hc, hB⟩
  have HC : Hid (∀ j, j < n → w'.cell? ⟨b1, j, none⟩ = some (.int .i64 (loI qmin qmax most j)) ∧ w'.cell? ⟨b2, j, none⟩ = some (.int .i64 (hiI qmax most j)) ∧ w'.cell? ⟨b3, j, none⟩ = some (.bool true)) := fun j hjp => by
    have := hc j (by omega)
    rw [(hj j hjp).1, (hj j hjp).2.1, (hj j hjp).2.2] at this
    exact this
  have HB : Hid _ := hB
  have K1 : Hid _ := k1
  have K2 : Hid _ := k2
  have HN : Hid _ := cnt_is qmax most n hm k1 k2
  clear hc hj hB k1 k2
  go_wp2_with fail
  refine (count6 qmax most hm m2 (div_small _ _ hm HZ.out) _).mono ?_
  rintro e w'' ⟨rfl, hw⟩
  rw [hw, HN.out]
  clear hw w''
  go_wp2_with fail
  go_loop [15] (fun i => ∃ k : Nat, k ≤ n ∧ i = .int .i64 k) (fun i => n - (intOf i).toNat)
  case atStart => exact ⟨0, Nat.zero_le _, rfl⟩
  case round =>
    obtain ⟨i, hk, rfl⟩ := hrel
    by_cases hlt : i < n
    · obtain ⟨d1, d2, d3⟩ := HC.out i hlt
      obtain ⟨U, lv, hv, rv, hU, e1, e2, u0, u1, wa, wb, wc⟩ := part_ways qmin qmax most n i hm K1.out K2.out hlt
      rw [e1] at d1
      rw [e2] at d2
      clear e1 e2
      rcases wa with ⟨tl, hV, x1, x2⟩ | ⟨tl, x1, x2⟩
      all_goals rcases wb with ⟨t0, y1, y2⟩ | ⟨t0, q0, y1, y2⟩ | ⟨t0, q0, q1, y1, y2⟩ | ⟨t0, q0, q1, y1, y2⟩
      all_goals rcases wc with ⟨hc, g1, g2⟩ | ⟨hc, g1, g2⟩
      any_goals (exfalso; clear hU; omega)
      all_goals
        go_wp2
        go_round
        case rel => exact ⟨i + 1, by omega, by go_num⟩
        case measure => simp [intOf]; omega
    · go_wp2
      go_ret
      exact ⟨rfl, HB.out⟩

end Go.Proofs.Qxb6623516a

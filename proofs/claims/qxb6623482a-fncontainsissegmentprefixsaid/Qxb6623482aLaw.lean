/-
  The walk of 'FnContainsIsSegmentPrefix'.
-/
import Derived.Test.Qxb6623482aSegs
namespace Go.Proofs.Qxb6623482a
open Go.RowKit
set_option linter.unusedVariables false

set_option maxHeartbeats 400000 in
theorem bytes5_true (x p q : ByteArray) (w : World) (h : x.size + p.size + q.size ≤ 1048576) :
    Calls Try.prog 5 #[.string x, .string p, .string q] w fun e w' => e = .returned (.bool true) ∧ w' = w := by
  go_enter Try.func5, Try.ntmps5
  go_wp2
  go_ret
  exact ⟨rfl, rfl⟩

set_option maxHeartbeats 400000 in
theorem bytes5_false (x p q : ByteArray) (w : World) (h : 1048576 < x.size + p.size + q.size) (hx : x.size ≤ maxLen) (hp : p.size ≤ maxLen) (hq : q.size ≤ maxLen) :
    Calls Try.prog 5 #[.string x, .string p, .string q] w fun e w' => e = .returned (.bool false) ∧ w' = w := by
  unfold maxLen at hx hp hq
  by_cases h1 : 1048576 < x.size
  · go_enter Try.func5, Try.ntmps5
    go_wp2
    go_ret
    exact ⟨rfl, rfl⟩
  by_cases h2 : 1048576 < p.size
  · go_enter Try.func5, Try.ntmps5
    go_wp2
    go_ret
    exact ⟨rfl, rfl⟩
  by_cases h3 : 1048576 < x.size + p.size
  · go_enter Try.func5, Try.ntmps5
    go_wp2
    go_ret
    exact ⟨rfl, rfl⟩
  by_cases h4 : 1048576 < q.size
  · go_enter Try.func5, Try.ntmps5
    go_wp2
    go_ret
    exact ⟨rfl, rfl⟩
  · go_enter Try.func5, Try.ntmps5
    go_wp2
    go_ret
    exact ⟨rfl, rfl⟩

theorem grown_drewN {w w' : World} (h : Grown w w') (m : Nat) : Grown w (w'.drewN m) := h

set_option maxRecDepth 100000 in
set_option maxHeartbeats 400000 in
theorem law_root (x p q : ByteArray) (w : World) (hx : x.size ≤ 262144) (hp : p.size ≤ 262144) (hq : q.size ≤ 262144) (h0 : p.toList.isEmpty = true) :
    Calls Try.prog 3 #[.string x, .string p, .string q] w fun e w' => e = .returned (.bool true) ∧ Grown w w' := by
  have hb : x.size + p.size + q.size ≤ 1048576 := by omega
  have K1 : Hid (contB p.toList q.toList = true) := contB_empty h0
  go_enter Try.func3, Try.ntmps3
  go_wp2_with fail
  refine (bytes5_true _ _ _ _ hb).mono ?_
  rintro e w' ⟨rfl, hw⟩
  rw [hw]
  clear hw w'
  go_wp2_with fail
  refine (make6 _ _).mono ?_
  rintro e w' ⟨rfl, rfl⟩
  go_wp2_with fail
  refine (make6 _ _).mono ?_
  rintro e w' ⟨rfl, rfl⟩
  go_wp2_with fail
  refine (cont7 _ _ _ (by omega) (by omega)).mono ?_
  rintro e w' ⟨rfl, rfl⟩
  rw [K1.out]
  go_wp2_with fail
  go_ret
  exact ⟨rfl, by repeat (first | exact Grown.refl _ | apply Grown.drew | apply Grown.alloc)⟩

set_option maxRecDepth 100000 in
set_option maxHeartbeats 1000000 in
theorem law_some (x p q : ByteArray) (w : World) (hx : x.size ≤ 262144) (hp : p.size ≤ 262144) (hq : q.size ≤ 262144) (h0 : p.toList.isEmpty = false) :
    Calls Try.prog 3 #[.string x, .string p, .string q] w fun e w' => e = .returned (.bool true) ∧ Grown w w' := by
  have hb : x.size + p.size + q.size ≤ 1048576 := by omega
  obtain ⟨b, k1⟩ : ∃ b, contB p.toList q.toList = b := ⟨_, rfl⟩
  have k2 : specB p.toList q.toList = b := by rw [← k1, contB_spec, h0, Bool.false_or]
  have k3 : contB (x ++ { data := #[47] } ++ p).toList (x ++ { data := #[47] } ++ q).toList = b := by rw [slash_list, slash_list, contB_parent _ _ _ h0, k1]
  have k4 : (x ++ { data := #[47] } ++ p).size ≤ 1000000 := by rw [slash_size]; omega
  have k5 : (x ++ { data := #[47] } ++ q).size ≤ 1000000 := by rw [slash_size]; omega
  have K1 : Hid _ := k1
  have K2 : Hid _ := k2
  have K3 : Hid _ := k3
  have K4 : Hid _ := k4
  have K5 : Hid _ := k5
  clear k1 k2 k3 k4 k5
  go_enter Try.func3, Try.ntmps3
  go_wp2_with fail
  refine (bytes5_true _ _ _ _ hb).mono ?_
  rintro e w' ⟨rfl, hw⟩
  rw [hw]
  clear hw w'
  go_wp2_with fail
  refine (make6 _ _).mono ?_
  rintro e w' ⟨rfl, rfl⟩
  go_wp2_with fail
  refine (make6 _ _).mono ?_
  rintro e w' ⟨rfl, rfl⟩
  go_wp2_with fail
  refine (cont7 _ _ _ (by omega) (by omega)).mono ?_
  rintro e w' ⟨rfl, rfl⟩
  rw [K1.out]
  go_wp2_with fail
  refine (segPre8 _ _ _ (by omega) (by omega)).mono ?_
  rintro e w' ⟨rfl, m, rfl⟩
  rw [K2.out]
  cases b with
  | true =>
    go_wp2_with fail
    refine (make6 _ _).mono ?_
    rintro e w' ⟨rfl, rfl⟩
    go_wp2_with fail
    refine (make6 _ _).mono ?_
    rintro e w' ⟨rfl, rfl⟩
    go_wp2_with fail
    refine (cont7 _ _ _ K4.out K5.out).mono ?_
    rintro e w' ⟨rfl, rfl⟩
    rw [K3.out]
    go_wp2_with fail
    go_ret
    exact ⟨rfl, by repeat (with_reducible (first | apply Grown.alloc | apply grown_drewN | exact Grown.refl _))⟩
  | false =>
    go_wp2_with fail
    refine (make6 _ _).mono ?_
    rintro e w' ⟨rfl, rfl⟩
    go_wp2_with fail
    refine (make6 _ _).mono ?_
    rintro e w' ⟨rfl, rfl⟩
    go_wp2_with fail
    refine (cont7 _ _ _ K4.out K5.out).mono ?_
    rintro e w' ⟨rfl, rfl⟩
    rw [K3.out]
    go_wp2_with fail
    go_ret
    exact ⟨rfl, by repeat (with_reducible (first | apply Grown.alloc | apply grown_drewN | exact Grown.refl _))⟩

set_option maxRecDepth 100000 in
set_option maxHeartbeats 400000 in
theorem law_far3 (x p q : ByteArray) (w : World) (h : 262144 < x.size ∨ 262144 < p.size ∨ 262144 < q.size) (hx : x.size ≤ maxLen) (hp : p.size ≤ maxLen) (hq : q.size ≤ maxLen) :
    Calls Try.prog 3 #[.string x, .string p, .string q] w fun e w' => e = .returned (.bool true) ∧ Grown w w' := by
  by_cases hb : x.size + p.size + q.size ≤ 1048576
  · by_cases h1 : 262144 < x.size
    · clear h
      go_enter Try.func3, Try.ntmps3
      go_wp2_with (go_at_call 5; refine (bytes5_true _ _ _ _ hb).mono ?_; rintro e w' ⟨rfl, rfl⟩)
      go_ret
      exact ⟨rfl, Grown.refl _⟩
    by_cases h2 : 262144 < p.size
    · clear h
      go_enter Try.func3, Try.ntmps3
      go_wp2_with (go_at_call 5; refine (bytes5_true _ _ _ _ hb).mono ?_; rintro e w' ⟨rfl, rfl⟩)
      go_ret
      exact ⟨rfl, Grown.refl _⟩
    · have h3 : 262144 < q.size := by omega
      clear h
      go_enter Try.func3, Try.ntmps3
      go_wp2_with (go_at_call 5; refine (bytes5_true _ _ _ _ hb).mono ?_; rintro e w' ⟨rfl, rfl⟩)
      go_ret
      exact ⟨rfl, Grown.refl _⟩
  · clear h
    go_enter Try.func3, Try.ntmps3
    go_wp2_with (go_at_call 5; refine (bytes5_false _ _ _ _ (by omega) hx hp hq).mono ?_; rintro e w' ⟨rfl, rfl⟩)
    go_ret
    exact ⟨rfl, Grown.refl _⟩

end Go.Proofs.Qxb6623482a

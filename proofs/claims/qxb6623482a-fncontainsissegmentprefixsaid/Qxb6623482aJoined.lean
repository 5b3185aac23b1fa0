/-
  The walk of 'FnContainsJoinedChildIsBeneath'.
-/
import Derived.Test.Qxb6623482aContains
namespace Go.Proofs.Qxb6623482a
open Go.RowKit
set_option linter.unusedVariables false

set_option maxHeartbeats 400000 in
theorem bytes9_true (x q : ByteArray) (w : World) (h : x.size + q.size ≤ 1048576) :
    Calls Try.prog 9 #[.string x, .string q] w fun e w' => e = .returned (.bool true) ∧ w' = w := by
  go_enter Try.func9, Try.ntmps9
  go_wp2
  go_ret
  exact ⟨rfl, rfl⟩

set_option maxHeartbeats 400000 in
theorem bytes9_false (x q : ByteArray) (w : World) (h : 1048576 < x.size + q.size) (hx : x.size ≤ maxLen) (hq : q.size ≤ maxLen) :
    Calls Try.prog 9 #[.string x, .string q] w fun e w' => e = .returned (.bool false) ∧ w' = w := by
  unfold maxLen at hx hq
  by_cases h1 : 1048576 < x.size
  · go_enter Try.func9, Try.ntmps9
    go_wp2
    go_ret
    exact ⟨rfl, rfl⟩
  · by_cases h2 : 1048576 < q.size
    · go_enter Try.func9, Try.ntmps9
      go_wp2
      go_ret
      exact ⟨rfl, rfl⟩
    · go_enter Try.func9, Try.ntmps9
      go_wp2
      go_ret
      exact ⟨rfl, rfl⟩

/-! ### the plain law -/
theorem slash_list (x q : ByteArray) : (x ++ { data := #[47] } ++ q).toList = x.toList ++ 47 :: q.toList := by
  simp [Lib.toList_data, ByteArray.data_append]

theorem slash_size (x q : ByteArray) : (x ++ { data := #[47] } ++ q).size = x.size + 1 + q.size := by
  rw [size_list, slash_list, size_list, size_list]
  simp
  omega

theorem contB_self (l : List UInt8) : contB l l = true := by simp [contB]
theorem contB_down (l r : List UInt8) : contB l (l ++ 47 :: r) = true := by
  have : preB l (l ++ 47 :: r) = true := List.isPrefixOf_iff_prefix.2 (List.prefix_append _ _)
  simp [contB, this]
theorem contB_up (l r : List UInt8) : contB (l ++ 47 :: r) l = false := by
  have h1 : (l ++ 47 :: r).isEmpty = false := by simp
  have h2 : (l == l ++ 47 :: r) = false := by
    rw [beq_eq_false_iff_ne]
    intro h
    have := congrArg List.length h
    simp at this
  have h3 : preB (l ++ 47 :: r) l = false := by
    unfold preB
    rw [Bool.eq_false_iff]
    intro h
    have := (List.isPrefixOf_iff_prefix.1 h).length_le
    simp at this
    omega
  exact contB_nopre h1 h2 h3

set_option maxRecDepth 100000 in
set_option maxHeartbeats 400000 in
theorem joined_main (x q : ByteArray) (w : World) (hx : x.size ≤ 262144) (hq : q.size ≤ 262144) :
    Calls Try.prog 4 #[.string x, .string q] w fun e w' => e = .returned (.bool true) ∧ Grown w w' := by
  have hb : x.size + q.size ≤ 1048576 := by omega
  have k1 : contB x.toList (x ++ { data := #[47] } ++ q).toList = true := by rw [slash_list]; exact contB_down _ _
  have k2 : contB (x ++ { data := #[47] } ++ q).toList x.toList = false := by rw [slash_list]; exact contB_up _ _
  have k3 : contB x.toList x.toList = true := contB_self _
  have k4 : (x ++ { data := #[47] } ++ q).size ≤ 1000000 := by rw [slash_size]; omega
  have K1 : Hid _ := k1
  have K2 : Hid _ := k2
  have K3 : Hid _ := k3
  have K4 : Hid _ := k4
  clear k1 k2 k3 k4
  go_enter Try.func4, Try.ntmps4
  go_wp2_with fail
  refine (bytes9_true _ _ _ hb).mono ?_
  rintro e w' ⟨rfl, hw⟩
  rw [hw]
  clear hw w'
  go_wp2_with fail
  refine (make6 _ _).mono ?_
  rintro e w' ⟨rfl, rfl⟩
  go_wp2_with fail
  refine (make6 _ _).mono ?_
  rintro e w' ⟨rfl, rfl⟩
  go_wp2_with fail
  refine (cont7 _ _ _ (by omega) K4.out).mono ?_
  rintro e w' ⟨rfl, rfl⟩
  rw [K1.out]
  go_wp2_with fail
  refine (cont7 _ _ _ K4.out (by omega)).mono ?_
  rintro e w' ⟨rfl, rfl⟩
  rw [K2.out]
  go_wp2_with fail
  refine (cont7 _ _ _ (by omega) (by omega)).mono ?_
  rintro e w' ⟨rfl, rfl⟩
  rw [K3.out]
  go_wp2_with fail
  go_ret
  exact ⟨rfl, by repeat (first | exact Grown.refl _ | apply Grown.drew | apply Grown.alloc)⟩

set_option maxRecDepth 100000 in
set_option maxHeartbeats 400000 in
theorem joined_far (x q : ByteArray) (w : World) (h : 262144 < x.size ∨ 262144 < q.size) (hx : x.size ≤ maxLen) (hq : q.size ≤ maxLen) :
    Calls Try.prog 4 #[.string x, .string q] w fun e w' => e = .returned (.bool true) ∧ Grown w w' := by
  by_cases hb : x.size + q.size ≤ 1048576
  · by_cases h1 : 262144 < x.size
    · go_enter Try.func4, Try.ntmps4
      go_wp2_with (go_at_call 9; refine (bytes9_true _ _ _ hb).mono ?_; rintro e w' ⟨rfl, rfl⟩)
      go_ret
      exact ⟨rfl, Grown.refl _⟩
    · have h2 : 262144 < q.size := by omega
      clear h
      go_enter Try.func4, Try.ntmps4
      go_wp2_with (go_at_call 9; refine (bytes9_true _ _ _ hb).mono ?_; rintro e w' ⟨rfl, rfl⟩)
      go_ret
      exact ⟨rfl, Grown.refl _⟩
  · clear h
    go_enter Try.func4, Try.ntmps4
    go_wp2_with (go_at_call 9; refine (bytes9_false _ _ _ (by omega) hx hq).mono ?_; rintro e w' ⟨rfl, rfl⟩)
    go_ret
    exact ⟨rfl, Grown.refl _⟩

end Go.Proofs.Qxb6623482a

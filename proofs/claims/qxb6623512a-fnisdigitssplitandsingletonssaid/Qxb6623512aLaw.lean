/-
  The walk of 'FnIsDigitsSplitAndSingletons'.
-/
import Derived.Test.Qxb6623512aDigits
namespace Go.Proofs.Qxb6623512a
open Go.RowKit
set_option linter.unusedVariables false

set_option maxHeartbeats 400000 in
theorem bytes4_true (s : ByteArray) (k : Int) (w : World) (h : s.size ≤ 1048576) :
    Calls Try.prog 4 #[.string s, .int .i64 k] w fun e w' => e = .returned (.bool true) ∧ w' = w := by
  go_enter Try.func4, Try.ntmps4
  go_wp2
  go_ret
  exact ⟨rfl, rfl⟩

set_option maxHeartbeats 400000 in
theorem bytes4_false (s : ByteArray) (k : Int) (w : World) (h : 1048576 < s.size) :
    Calls Try.prog 4 #[.string s, .int .i64 k] w fun e w' => e = .returned (.bool false) ∧ w' = w := by
  go_enter Try.func4, Try.ntmps4
  go_wp2
  go_ret
  exact ⟨rfl, rfl⟩

set_option maxRecDepth 100000 in
set_option maxHeartbeats 400000 in
theorem law_long (s : ByteArray) (k : Int) (w : World) (h : 1048576 < s.size) :
    Calls Try.prog 3 #[.string s, .int .i64 k] w fun e w' => e = .returned (.bool true) ∧ Grown w w' := by
  go_enter Try.func3, Try.ntmps3
  go_wp2_with (go_at_call 4; refine (bytes4_false _ _ _ h).mono ?_; rintro e w' ⟨rfl, rfl⟩)
  go_ret
  exact ⟨rfl, Grown.refl _⟩

set_option maxRecDepth 100000 in
set_option maxHeartbeats 400000 in
theorem law_out (s : ByteArray) (k : Int) (w : World) (h : s.size ≤ 1048576) (hk : k < 0 ∨ (0 ≤ k ∧ (s.size : Int) < k)) :
    Calls Try.prog 3 #[.string s, .int .i64 k] w fun e w' => e = .returned (.bool true) ∧ Grown w w' := by
  rcases hk with hk | ⟨hk0, hk⟩
  · go_enter Try.func3, Try.ntmps3
    go_wp2_with (go_at_call 4; refine (bytes4_true _ _ _ h).mono ?_; rintro e w' ⟨rfl, rfl⟩)
    go_ret
    exact ⟨rfl, Grown.refl _⟩
  · go_enter Try.func3, Try.ntmps3
    go_wp2_with (go_at_call 4; refine (bytes4_true _ _ _ h).mono ?_; rintro e w' ⟨rfl, rfl⟩)
    go_ret
    exact ⟨rfl, Grown.refl _⟩

theorem digB_nil : digB (ByteArray.toList { data := #[] }) = false := by rw [Lib.toList_data]; rfl

/-- the empty string -/
theorem law_nil (s : ByteArray) (w : World) (h : s.size = 0) :
    Calls Try.prog 3 #[.string s, .int .i64 0] w fun e w' => e = .returned (.bool true) ∧ Grown w w' := by
  have hs : s = { data := #[] } := by
    obtain ⟨⟨l⟩⟩ := s
    have : l.length = 0 := h
    rw [List.length_eq_zero_iff.1 this]
  subst hs
  clear h
  have K : Hid _ := digB_nil
  go_enter Try.func3, Try.ntmps3
  go_wp2_with (first | (go_at_call 4; refine (bytes4_true _ _ _ (by decide)).mono ?_; rintro e w' ⟨rfl, rfl⟩) | (go_at_call 5; refine (dig5 _ _ (by decide)).mono ?_; rintro e w' ⟨rfl, rfl⟩; rw [K.out]))
  go_ret
  exact ⟨rfl, Grown.refl _⟩

/-- ZZisDigits at a string whose answer is known -/
theorem dig_at (X : ByteArray) (b : Bool) (hb : digB X.toList = b) (hx : X.size ≤ 1048576) (W : World) (K : Ending → World → Prop) (hK : K (.returned (.bool b)) W) : Calls Try.prog 5 #[.string X] W K := by
  refine (dig5 X W hx).mono ?_
  rintro e w' ⟨rfl, hw⟩
  rw [hw, hb]
  exact hK

theorem byt_at (s : ByteArray) (k : Int) (h : s.size ≤ 1048576) (W : World) (K : Ending → World → Prop) (hK : K (.returned (.bool true)) W) : Calls Try.prog 4 #[.string s, .int .i64 k] W K := by
  refine (bytes4_true s k W h).mono ?_
  rintro e w' ⟨rfl, hw⟩
  rw [hw]
  exact hK

theorem cut_size (s : ByteArray) (a b : Nat) (h : s.size ≤ 1048576) : (s.extract a b).size ≤ 1048576 := by
  rw [size_list, cut_list, List.length_take, List.length_drop, ← size_list]
  omega

/-- the three kinds of a byte, in the walk's own words -/
theorem kinds (c : UInt8) : (isd c = true ∧ decide ((48 : Int) ≤ (c.toNat : Int)) = true ∧ decide ((c.toNat : Int) ≤ 57) = true) ∨ (isd c = false ∧ decide ((48 : Int) ≤ (c.toNat : Int)) = false) ∨ (isd c = false ∧ decide ((48 : Int) ≤ (c.toNat : Int)) = true ∧ decide ((c.toNat : Int) ≤ 57) = false) := by
  unfold isd
  by_cases h1 : 48 ≤ c.toNat
  · by_cases h2 : c.toNat ≤ 57
    · left; simp [h1, h2]; omega
    · right; right; simp [h1, h2]; omega
  · right; left; simp [h1]; omega

set_option maxRecDepth 100000 in
set_option maxHeartbeats 4000000 in
theorem law_mid (s : ByteArray) (k : Nat) (w : World) (h : s.size ≤ 1048576) (h0 : 0 < k) (h1 : k < s.size) :
    Calls Try.prog 3 #[.string s, .int .i64 k] w fun e w' => e = .returned (.bool true) ∧ Grown w w' := by
  have h1' : k < s.toList.length := by rw [← size_list]; exact h1
  obtain ⟨bl, el⟩ : ∃ b, digB (s.extract 0 k).toList = b := ⟨_, rfl⟩
  obtain ⟨br, er⟩ : ∃ b, digB (s.extract k s.size).toList = b := ⟨_, rfl⟩
  have ew : digB s.toList = (bl && br) := by
    rw [digB_split s.toList k h0 h1', ← el, ← er, cut_list, cut_list]
    congr 2
    rw [List.take_of_length_le (by rw [List.length_drop, ← size_list]; omega)]
  have es : digB (s.extract k (k + 1)).toList = isd s[k] := by
    rw [cut_list, show k + 1 - k = 1 by omega, digB_one s.toList k h1', at_list s k h1]
  have CL : Hid _ := dig_at (s.extract 0 k) bl el (cut_size _ _ _ h)
  have CR : Hid _ := dig_at (s.extract k s.size) br er (cut_size _ _ _ h)
  have CW : Hid _ := dig_at s (bl && br) ew h
  have CE : Hid _ := dig_at { data := #[] } false digB_nil (by decide)
  have C4 : Hid _ := byt_at s k h
  have t1 : decide ((k : Int) < 0) = false := decide_eq_false (by omega)
  have t2 : ((k : Int) == 0) = false := by simp; omega
  have t3 : ((k : Int) == (s.size : Int)) = false := by simp; omega
  have t4 : decide ((0 : Int) < (s.size : Int)) = true := decide_eq_true (by omega)
  rcases kinds s[k] with ⟨kd, k1, k2⟩ | ⟨kd, k1⟩ | ⟨kd, k1, k2⟩
  all_goals
    rw [kd] at es
    have CS : Hid _ := dig_at (s.extract k (k + 1)) _ es (cut_size _ _ _ h)
    clear el er ew es kd h1'
    cases bl <;> cases br
    all_goals
      go_enter Try.func3, Try.ntmps3
      go_wp2_with fail
      refine C4.out _ _ ?_
      go_wp2_with fail
      refine CW.out _ _ ?_
      go_wp2_with fail
      refine CL.out _ _ ?_
      go_wp2_with fail
      refine CR.out _ _ ?_
      go_wp2_with fail
      refine CS.out _ _ ?_
      go_wp2_with fail
      refine CE.out _ _ ?_
      go_wp2_with fail
      go_ret
      exact ⟨rfl, Grown.refl _⟩

set_option maxRecDepth 100000 in
set_option maxHeartbeats 4000000 in
theorem law_first (s : ByteArray) (w : World) (h : s.size ≤ 1048576) (h1 : 0 < s.size) :
    Calls Try.prog 3 #[.string s, .int .i64 0] w fun e w' => e = .returned (.bool true) ∧ Grown w w' := by
  have h1' : 0 < s.toList.length := by rw [← size_list]; exact h1
  obtain ⟨b, ew⟩ : ∃ b, digB s.toList = b := ⟨_, rfl⟩
  have es : digB (s.extract 0 1).toList = isd s[0] := by
    rw [cut_list, show 1 - 0 = 1 by omega, digB_one s.toList 0 h1', at_list s 0 h1]
  have CW : Hid _ := dig_at s b ew h
  have CE : Hid _ := dig_at { data := #[] } false digB_nil (by decide)
  have C4 : Hid _ := byt_at s 0 h
  have t3 : ((0 : Int) == (s.size : Int)) = false := by simp; omega
  have t4 : decide ((0 : Int) < (s.size : Int)) = true := decide_eq_true (by omega)
  rcases kinds s[0] with ⟨kd, k1, k2⟩ | ⟨kd, k1⟩ | ⟨kd, k1, k2⟩
  all_goals
    rw [kd] at es
    have CS : Hid _ := dig_at (s.extract 0 1) _ es (cut_size _ _ _ h)
    clear ew es kd h1'
    cases b
    all_goals
      go_enter Try.func3, Try.ntmps3
      go_wp2_with fail
      refine C4.out _ _ ?_
      go_wp2_with fail
      refine CW.out _ _ ?_
      go_wp2_with fail
      refine CW.out _ _ ?_
      go_wp2_with fail
      refine CS.out _ _ ?_
      go_wp2_with fail
      refine CE.out _ _ ?_
      go_wp2_with fail
      go_ret
      exact ⟨rfl, Grown.refl _⟩

set_option maxRecDepth 100000 in
set_option maxHeartbeats 4000000 in
theorem law_last (s : ByteArray) (w : World) (h : s.size ≤ 1048576) (h1 : 0 < s.size) :
    Calls Try.prog 3 #[.string s, .int .i64 s.size] w fun e w' => e = .returned (.bool true) ∧ Grown w w' := by
  obtain ⟨b, ew⟩ : ∃ b, digB s.toList = b := ⟨_, rfl⟩
  have CW : Hid _ := dig_at s b ew h
  have CE : Hid _ := dig_at { data := #[] } false digB_nil (by decide)
  have C4 : Hid _ := byt_at s s.size h
  have t1 : decide ((s.size : Int) < 0) = false := decide_eq_false (by omega)
  have t2 : ((s.size : Int) == 0) = false := by rw [beq_eq_false_iff_ne]; omega
  have t4 : decide ((0 : Int) < (s.size : Int)) = true := decide_eq_true (by omega)
  clear ew
  cases b
  all_goals
    go_enter Try.func3, Try.ntmps3
    go_wp2_with fail
    refine C4.out _ _ ?_
    go_wp2_with fail
    refine CW.out _ _ ?_
    go_wp2_with fail
    refine CW.out _ _ ?_
    go_wp2_with fail
    refine CE.out _ _ ?_
    go_wp2_with fail
    go_ret
    exact ⟨rfl, Grown.refl _⟩

end Go.Proofs.Qxb6623512a

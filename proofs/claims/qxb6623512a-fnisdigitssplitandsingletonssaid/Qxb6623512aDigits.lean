/-
  The walks of isDigits and ZZisDigits, and the plain law of digits.
-/
import Derived.Test.Qxb6623512aRows
import Derived.WalkKit
import Derived.WalkSpells
import Derived.Outline
import Derived.Lib.Strings
namespace Go.Proofs.Qxb6623512a
open Go.RowKit
set_option linter.unusedVariables false

theorem ret_bool {a b : Bool} (h : a = b) : Ending.returned (.bool a) = .returned (.bool b) := by rw [h]
theorem size_list (s : ByteArray) : s.size = s.toList.length := by rw [Lib.toList_data]; rfl
theorem at_list (s : ByteArray) (k : Nat) (h : k < s.size) (h' : k < s.toList.length) : s.toList[k] = s[k] := by
  simp only [Lib.toList_data]
  rfl
theorem cut_list (s : ByteArray) (a b : Nat) : (s.extract a b).toList = (s.toList.drop a).take (b - a) := by
  rw [Lib.extract_toList, Lib.toList_data]

/-- one ASCII digit -/
def isd (c : UInt8) : Bool := decide (48 ≤ c.toNat) && decide (c.toNat ≤ 57)
/-- all are digits -/
def allB (l : List UInt8) : Bool := l.all isd
/-- isDigits -/
def digB (l : List UInt8) : Bool := !l.isEmpty && allB l

theorem allB_hit (l : List UInt8) (k : Nat) (h : k < l.length) (hd : isd l[k] = true) : allB (l.drop (k + 1)) = allB (l.drop k) := by
  unfold allB
  rw [List.drop_eq_getElem_cons h, List.all_cons, hd, Bool.true_and]
theorem allB_miss (l : List UInt8) (k : Nat) (h : k < l.length) (hd : isd l[k] = false) : allB (l.drop k) = false := by
  unfold allB
  rw [List.drop_eq_getElem_cons h, List.all_cons, hd, Bool.false_and]

set_option maxHeartbeats 400000 in
theorem dig6 (s : ByteArray) (w : World) (hs : s.size ≤ 1048576) :
    Calls Try.prog 6 #[.string s] w fun e w' => e = .returned (.bool (digB s.toList)) ∧ w' = w := by
  unfold digB
  cases h0 : s.toList.isEmpty with
  | true =>
    go_enter Try.func6, Try.ntmps6
    go_wp2
    go_ret
    exact ⟨rfl, rfl⟩
  | false =>
    rw [Bool.not_false, Bool.true_and]
    go_enter Try.func6, Try.ntmps6
    go_wp2
    go_loop [3] (fun j => ∃ k : Nat, k ≤ s.size ∧ j = .int .i64 k ∧ allB (s.toList.drop k) = allB s.toList) (fun j => s.size - (intOf j).toNat)
    case atStart => exact ⟨0, Nat.zero_le _, rfl, rfl⟩
    case round =>
      obtain ⟨k, hk, rfl, hF⟩ := hrel
      have HF : Hid _ := hF
      clear hF
      by_cases hlt : k < s.size
      · have hlt' : k < s.toList.length := by rw [← size_list]; exact hlt
        have ea := at_list s k hlt hlt'
        cases hd : isd s[k] with
        | true =>
          have HH : Hid _ := allB_hit s.toList k hlt' (by rw [ea]; exact hd)
          simp only [isd, Bool.and_eq_true, decide_eq_true_eq] at hd
          obtain ⟨d1, d2⟩ := hd
          have e1 : (48 : Int) ≤ (s[k].toNat : Int) := by omega
          have e2 : (s[k].toNat : Int) ≤ 57 := by omega
          clear hlt' ea d1 d2
          go_wp2
          go_round
          case rel => exact ⟨k + 1, by omega, by go_num, by rw [HH.out, HF.out]⟩
          case measure => simp [intOf]; omega
        | false =>
          have HH : Hid _ := allB_miss s.toList k hlt' (by rw [ea]; exact hd)
          have R : Hid (allB s.toList = false) := by rw [← HF.out]; exact HH.out
          have hd2 : s[k].toNat < 48 ∨ (48 ≤ s[k].toNat ∧ 57 < s[k].toNat) := by
            simp only [isd, Bool.and_eq_false_iff, decide_eq_false_iff_not] at hd
            omega
          clear hlt' ea hd HH
          rcases hd2 with d | ⟨d1, d2⟩
          · have e1 : (s[k].toNat : Int) < 48 := by omega
            clear d
            go_wp2
            go_ret
            exact ⟨ret_bool R.out.symm, rfl⟩
          · have e1 : (48 : Int) ≤ (s[k].toNat : Int) := by omega
            have e2 : (57 : Int) < (s[k].toNat : Int) := by omega
            clear d1 d2
            go_wp2
            go_ret
            exact ⟨ret_bool R.out.symm, rfl⟩
      · go_wp2
        go_ret
        have hkn : k = s.size := by omega
        exact ⟨ret_bool (by rw [← HF.out, hkn, size_list, List.drop_length]; rfl), rfl⟩

set_option maxHeartbeats 400000 in
theorem dig5 (s : ByteArray) (w : World) (hs : s.size ≤ 1048576) :
    Calls Try.prog 5 #[.string s] w fun e w' => e = .returned (.bool (digB s.toList)) ∧ w' = w := by
  go_enter Try.func5, Try.ntmps5
  go_wp2_with (go_at_call 6; refine (dig6 _ _ hs).mono ?_; rintro e w' ⟨rfl, rfl⟩)
  go_ret
  exact ⟨rfl, rfl⟩

/-! ### the plain law -/
theorem allB_append (a b : List UInt8) : allB (a ++ b) = (allB a && allB b) := by simp [allB]
theorem digB_pos (l : List UInt8) (h : 0 < l.length) : digB l = allB l := by
  unfold digB
  have : l.isEmpty = false := by cases l with
    | nil => simp at h
    | cons => rfl
  rw [this]
  rfl
theorem digB_split (l : List UInt8) (k : Nat) (h0 : 0 < k) (h1 : k < l.length) : digB l = (digB (l.take k) && digB (l.drop k)) := by
  rw [digB_pos l (by omega), digB_pos (l.take k) (by simp; omega), digB_pos (l.drop k) (by simp; omega), ← allB_append, List.take_append_drop]
theorem digB_one (l : List UInt8) (k : Nat) (h : k < l.length) : digB ((l.drop k).take 1) = isd l[k] := by
  rw [List.drop_eq_getElem_cons h, List.take_succ_cons, List.take_zero]
  simp [digB, allB]

end Go.Proofs.Qxb6623512a

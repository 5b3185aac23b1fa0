/-
  The walks of HasPrefix, ZZMakePath and Path.Contains.
-/
import Derived.Test.Qxb6623482aRows
import Derived.WalkKit
import Derived.WalkSpells
import Derived.Deep.QuietTactic
import Derived.BigQuiet
import Derived.Outline
import Derived.Lib.Strings
namespace Go.Proofs.Qxb6623482a
open Go.RowKit
set_option linter.unusedVariables false

/-- strings.HasPrefix(s, p) -/
def preB (p s : List UInt8) : Bool := p.isPrefixOf s

theorem ret_bool {a b : Bool} (h : a = b) : Ending.returned (.bool a) = .returned (.bool b) := by rw [h]

theorem size_list (s : ByteArray) : s.size = s.toList.length := by rw [Lib.toList_data]; rfl

theorem ext_list (s p : ByteArray) : ((s.extract 0 p.size).toList == p.toList) = preB p.toList s.toList := by
  unfold preB
  rw [Lib.toList_data, Lib.extract_data, Bool.eq_iff_iff, beq_iff_eq, List.isPrefixOf_iff_prefix, size_list p, Lib.toList_data s]
  simp only [List.drop_zero, Nat.sub_zero]
  rw [List.prefix_iff_eq_take]
  exact eq_comm

set_option maxHeartbeats 400000 in
theorem pre13 (s p : ByteArray) (w : World) (hs : s.size ≤ 1000000) (hp : p.size ≤ 1000000) :
    Calls Try.prog 13 #[.string s, .string p] w fun e w' => e = .returned (.bool (preB p.toList s.toList)) ∧ w' = w := by
  by_cases h : p.size ≤ s.size
  · go_enter Try.func13, Try.ntmps13
    go_wp2
    go_ret
    exact ⟨ret_bool (ext_list s p), rfl⟩
  · have hf : false = preB p.toList s.toList := by
      symm
      unfold preB
      rw [Bool.eq_false_iff]
      intro hc
      have := (List.isPrefixOf_iff_prefix.1 hc).length_le
      rw [← size_list, ← size_list] at this
      omega
    have HF : Hid (false = preB p.toList s.toList) := hf
    clear hf
    go_enter Try.func13, Try.ntmps13
    go_wp2
    go_ret
    exact ⟨ret_bool HF.out, rfl⟩

set_option maxHeartbeats 400000 in
theorem pre10 (s p : ByteArray) (w : World) (hs : s.size ≤ 1000000) (hp : p.size ≤ 1000000) :
    Calls Try.prog 10 #[.string s, .string p] w fun e w' => e = .returned (.bool (preB p.toList s.toList)) ∧ w' = w := by
  go_enter Try.func10, Try.ntmps10
  go_wp2_with (go_at_call 13; refine (pre13 _ _ _ hs hp).mono ?_; rintro e w' ⟨rfl, rfl⟩)
  go_ret
  exact ⟨rfl, rfl⟩

set_option maxHeartbeats 400000 in
theorem make6 (s : ByteArray) (w : World) :
    Calls Try.prog 6 #[.string s] w fun e w' => e = .returned (.agg #[.string s]) ∧ w' = w.alloc (.cells #[.string s] 24) := by
  go_enter Try.func6, Try.ntmps6
  go_wp2
  exact bodyPost_ret (v := .agg #[.string s]) (by simp [results, Try.results6, go_sem]) rfl ⟨rfl, rfl⟩

/-- Path(p).Contains(Path(q)) -/
def contB (p q : List UInt8) : Bool := p.isEmpty || q == p || (preB p q && q[p.length]? == some 47)

theorem contB_empty {p q : List UInt8} (h : p.isEmpty = true) : contB p q = true := by simp [contB, h]
theorem contB_same {p q : List UInt8} (h : (q == p) = true) : contB p q = true := by simp [contB, h]
theorem contB_nopre {p q : List UInt8} (h0 : p.isEmpty = false) (h1 : (q == p) = false) (h : preB p q = false) : contB p q = false := by simp [contB, h0, h1, h]
theorem contB_pre {p q : ByteArray} (h0 : p.toList.isEmpty = false) (h1 : (q.toList == p.toList) = false) (h : preB p.toList q.toList = true) (hlt : p.size < q.size) :
    contB p.toList q.toList = (((q[p.size]'hlt).toNat : Int) == 47) := by
  have e : q.toList[p.toList.length]? = some (q[p.size]'hlt) := by
    rw [← size_list]
    simp only [Lib.toList_data]
    rw [List.getElem?_eq_getElem (by simpa using hlt)]
    rfl
  unfold contB
  rw [h0, h1, h, e]
  simp only [Bool.false_or, Bool.true_and]
  rw [Bool.eq_iff_iff]
  simp only [beq_iff_eq, Option.some.injEq]
  constructor
  · intro h; rw [h]; rfl
  · intro h; exact UInt8.toNat_inj.1 (by have e47 : (47 : UInt8).toNat = 47 := rfl; omega)

set_option maxHeartbeats 400000 in
theorem cont7 (p q : ByteArray) (w : World) (hp : p.size ≤ 1000000) (hq : q.size ≤ 1000000) :
    Calls Try.prog 7 #[.agg #[.string p], .agg #[.string q]] w fun e w' => e = .returned (.bool (contB p.toList q.toList)) ∧ w' = (w.alloc (.cells #[.string p] 24)).alloc (.cells #[.string q] 24) := by
  cases h0 : p.toList.isEmpty with
  | true =>
    rw [contB_empty h0]
    go_enter Try.func7, Try.ntmps7
    go_wp2
    go_ret
    exact ⟨rfl, rfl⟩
  | false =>
    cases h1 : (q.toList == p.toList) with
    | true =>
      rw [contB_same h1]
      go_enter Try.func7, Try.ntmps7
      go_wp2
      go_ret
      exact ⟨rfl, rfl⟩
    | false =>
      cases h2 : preB p.toList q.toList with
      | false =>
        rw [contB_nopre h0 h1 h2]
        go_enter Try.func7, Try.ntmps7
        go_wp2_with (go_at_call 10; refine (pre10 _ _ _ hq hp).mono ?_; rintro e w' ⟨rfl, rfl⟩)
        go_ret
        exact ⟨rfl, rfl⟩
      | true =>
        have hlt : p.size < q.size := by
          unfold preB at h2
          have hpre := List.isPrefixOf_iff_prefix.1 h2
          have hle := hpre.length_le
          have hne : p.toList.length ≠ q.toList.length := fun e => by
            have := hpre.eq_of_length e
            rw [this] at h1
            simp at h1
          rw [← size_list, ← size_list] at hle hne
          omega
        rw [contB_pre h0 h1 h2 hlt]
        go_enter Try.func7, Try.ntmps7
        go_wp2_with (go_at_call 10; refine (pre10 _ _ _ hq hp).mono ?_; rintro e w' ⟨rfl, rfl⟩)
        go_ret
        exact ⟨rfl, rfl⟩

end Go.Proofs.Qxb6623482a

/-
  The plain law of segments: lists of bytes, no Go in sight.
-/
import Derived.Test.Qxb6623482aJoined
namespace Go.Proofs.Qxb6623482a

/-- the index of the first slash at or behind i, or the length -/
def segEnd (l : List UInt8) (i : Nat) : Nat := i + ((l.drop i).takeWhile (· != 47)).length

theorem segEnd_ge (l : List UInt8) (i : Nat) : i ≤ segEnd l i := by unfold segEnd; omega
theorem takeWhile_len (p : UInt8 → Bool) (l : List UInt8) : (l.takeWhile p).length ≤ l.length := (List.takeWhile_sublist p).length_le
theorem segEnd_le (l : List UInt8) (i : Nat) (h : i ≤ l.length) : segEnd l i ≤ l.length := by
  unfold segEnd
  have := takeWhile_len (· != 47) (l.drop i)
  rw [List.length_drop] at this
  omega
theorem segEnd_end (l : List UInt8) : segEnd l l.length = l.length := by simp [segEnd]
theorem segEnd_hit (l : List UInt8) (i : Nat) (h : i < l.length) (hs : l[i] = 47) : segEnd l i = i := by
  unfold segEnd
  rw [List.drop_eq_getElem_cons h, List.takeWhile_cons, hs]
  simp
theorem segEnd_miss (l : List UInt8) (i : Nat) (h : i < l.length) (hs : l[i] ≠ 47) : segEnd l (i + 1) = segEnd l i := by
  unfold segEnd
  rw [List.drop_eq_getElem_cons h, List.takeWhile_cons]
  have : (l[i] != 47) = true := by simpa using hs
  rw [this]
  simp
  omega

/-- two stretches hold the same bytes -/
def sameB (a : List UInt8) (ai aj : Nat) (b : List UInt8) (bi bj : Nat) : Bool := (a.drop ai).take (aj - ai) == (b.drop bi).take (bj - bi)

/-- n bytes from ai and from bi on are the same -/
def runB (a : List UInt8) (ai : Nat) (b : List UInt8) (bi n : Nat) : Bool := (a.drop ai).take n == (b.drop bi).take n

theorem runB_zero (a : List UInt8) (ai : Nat) (b : List UInt8) (bi : Nat) : runB a ai b bi 0 = true := by simp [runB]
theorem runB_same (a : List UInt8) (ai : Nat) (b : List UInt8) (bi n : Nat) (ha : ai < a.length) (hb : bi < b.length) (h : a[ai] = b[bi]) :
    runB a (ai + 1) b (bi + 1) n = runB a ai b bi (n + 1) := by
  unfold runB
  rw [List.drop_eq_getElem_cons ha, List.drop_eq_getElem_cons hb, List.take_succ_cons, List.take_succ_cons, h]
  simp
theorem runB_differ (a : List UInt8) (ai : Nat) (b : List UInt8) (bi n : Nat) (ha : ai < a.length) (hb : bi < b.length) (h : a[ai] ≠ b[bi]) : runB a ai b bi (n + 1) = false := by
  unfold runB
  rw [List.drop_eq_getElem_cons ha, List.drop_eq_getElem_cons hb, List.take_succ_cons, List.take_succ_cons]
  simp [h]
theorem sameB_run (a : List UInt8) (ai aj : Nat) (b : List UInt8) (bi bj : Nat) (h : aj - ai = bj - bi) : sameB a ai aj b bi bj = runB a ai b bi (aj - ai) := by
  unfold sameB runB
  rw [← h]
theorem sameB_len (a : List UInt8) (ai aj : Nat) (b : List UInt8) (bi bj : Nat) (ha1 : ai ≤ aj) (ha : aj ≤ a.length) (hb1 : bi ≤ bj) (hb : bj ≤ b.length) (h : aj - ai ≠ bj - bi) : sameB a ai aj b bi bj = false := by
  unfold sameB
  rw [beq_eq_false_iff_ne]
  intro e
  have := congrArg List.length e
  simp at this
  omega

/-- the segments of q begin with those of p: q is p, or goes on behind p with a slash -/
def specB (p q : List UInt8) : Bool := q == p || (preB p q && q[p.length]? == some 47)

theorem contB_spec (p q : List UInt8) : contB p q = (p.isEmpty || specB p q) := by
  simp [contB, specB, Bool.or_assoc]

theorem specB_iff (p q : List UInt8) : specB p q = true ↔ q = p ∨ ∃ r, q = p ++ 47 :: r := by
  unfold specB preB
  simp only [Bool.or_eq_true, beq_iff_eq, Bool.and_eq_true, List.isPrefixOf_iff_prefix]
  constructor
  · rintro (h | ⟨⟨r, rfl⟩, h⟩)
    · exact .inl h
    · right
      rw [List.getElem?_append_right (Nat.le_refl _), Nat.sub_self] at h
      match r, h with
      | c :: r, h =>
        simp at h
        exact ⟨r, by rw [h]⟩
  · rintro (h | ⟨r, rfl⟩)
    · exact .inl h
    · right
      exact ⟨List.prefix_append _ _, by rw [List.getElem?_append_right (Nat.le_refl _), Nat.sub_self]; rfl⟩

theorem specB_append (c p q : List UInt8) : specB (c ++ p) (c ++ q) = specB p q := by
  rw [Bool.eq_iff_iff, specB_iff, specB_iff]
  simp only [List.append_assoc, List.append_cancel_left_eq]

/-- what stands behind a segment: nothing, or a slash -/
theorem tail_shape (l : List UInt8) : (l = l.takeWhile (· != 47)) ∨ ∃ r, l = l.takeWhile (· != 47) ++ 47 :: r := by
  induction l with
  | nil => exact .inl rfl
  | cons c l ih =>
    by_cases h : c = 47
    · right; exact ⟨l, by simp [h]⟩
    · have hc : (c != 47) = true := by simpa using h
      rcases ih with ih | ⟨r, ih⟩
      · left
        rw [List.takeWhile_cons, hc]
        simp only [if_true]
        rw [← ih]
      · right
        refine ⟨r, ?_⟩
        rw [List.takeWhile_cons, hc]
        simp only [if_true, List.cons_append]
        rw [← ih]

/-- the first segment of a text, abbreviated -/
def seg (l : List UInt8) : List UInt8 := l.takeWhile (· != 47)

theorem seg_slash (l r : List UInt8) : seg (l ++ 47 :: r) = seg l := by
  induction l with
  | nil => simp [seg]
  | cons c l ih =>
    unfold seg at ih ⊢
    rw [List.cons_append, List.takeWhile_cons, List.takeWhile_cons, ih]

theorem seg_take (l : List UInt8) (i : Nat) : (l.drop i).take (segEnd l i - i) = seg (l.drop i) := by
  unfold segEnd
  rw [Nat.add_sub_cancel_left]
  exact (List.prefix_iff_eq_take.1 (List.takeWhile_prefix _)).symm

theorem sameB_seg (p q : List UInt8) (i j : Nat) : sameB p i (segEnd p i) q j (segEnd q j) = (seg (p.drop i) == seg (q.drop j)) := by
  unfold sameB
  rw [seg_take, seg_take]

theorem seg_all (l : List UInt8) (i : Nat) (hi : i ≤ l.length) (h : segEnd l i = l.length) : l.drop i = seg (l.drop i) := by
  rw [← seg_take, List.take_of_length_le (by rw [List.length_drop]; omega)]

theorem drop_slash (l r : List UInt8) : (l ++ 47 :: r).drop (l.length + 1) = r := by
  induction l with
  | nil => rfl
  | cons c l _ => simp

theorem seg_more (l : List UInt8) (i : Nat) (hi : i ≤ l.length) (h : segEnd l i ≠ l.length) : l.drop i = seg (l.drop i) ++ 47 :: l.drop (segEnd l i + 1) := by
  rcases tail_shape (l.drop i) with h1 | ⟨r, h1⟩
  · exfalso
    apply h
    have := congrArg List.length h1
    rw [List.length_drop] at this
    unfold segEnd
    omega
  · have e : l.drop (segEnd l i + 1) = r := by
      have e1 : l.drop (segEnd l i + 1) = (l.drop i).drop ((seg (l.drop i)).length + 1) := by
        rw [List.drop_drop]
        rfl
      have e2 : (l.drop i).drop ((seg (l.drop i)).length + 1) = (seg (l.drop i) ++ 47 :: r).drop ((seg (l.drop i)).length + 1) := congrArg (List.drop _) h1
      rw [e1, e2, drop_slash]
    rw [e]
    exact h1

/-! ### one round of zzSegPrefix -/
theorem round_no (p q : List UInt8) (i j : Nat) (h : sameB p i (segEnd p i) q j (segEnd q j) = false) : specB (p.drop i) (q.drop j) = false := by
  rw [sameB_seg, beq_eq_false_iff_ne] at h
  rw [Bool.eq_false_iff]
  intro hs
  rcases (specB_iff _ _).1 hs with e | ⟨r, e⟩
  · exact h (by rw [e])
  · exact h (by rw [e, seg_slash])

theorem round_yes (p q : List UInt8) (i j : Nat) (hi : i ≤ p.length) (hj : j ≤ q.length) (h : sameB p i (segEnd p i) q j (segEnd q j) = true) (hp : segEnd p i = p.length) : specB (p.drop i) (q.drop j) = true := by
  rw [sameB_seg, beq_iff_eq] at h
  rw [specB_iff]
  have e1 := seg_all p i hi hp
  by_cases hq : segEnd q j = q.length
  · left; rw [seg_all q j hj hq, ← h, ← e1]
  · right
    refine ⟨q.drop (segEnd q j + 1), ?_⟩
    have e2 := seg_more q j hj hq
    rw [← h, ← e1] at e2
    exact e2

theorem round_short (p q : List UInt8) (i j : Nat) (hi : i ≤ p.length) (hj : j ≤ q.length) (h : sameB p i (segEnd p i) q j (segEnd q j) = true) (hp : segEnd p i ≠ p.length) (hq : segEnd q j = q.length) : specB (p.drop i) (q.drop j) = false := by
  rw [sameB_seg, beq_iff_eq] at h
  have e1 := seg_more p i hi hp
  have e2 := seg_all q j hj hq
  rw [← h] at e2
  have l1 := congrArg List.length e1
  have l2 := congrArg List.length e2
  simp only [List.length_append, List.length_cons] at l1
  rw [Bool.eq_false_iff]
  intro hs
  rcases (specB_iff _ _).1 hs with e | ⟨r, e⟩
  · have := congrArg List.length e
    omega
  · have := congrArg List.length e
    simp only [List.length_append, List.length_cons] at this
    omega

theorem round_on (p q : List UInt8) (i j : Nat) (hi : i ≤ p.length) (hj : j ≤ q.length) (h : sameB p i (segEnd p i) q j (segEnd q j) = true) (hp : segEnd p i ≠ p.length) (hq : segEnd q j ≠ q.length) :
    specB (p.drop (segEnd p i + 1)) (q.drop (segEnd q j + 1)) = specB (p.drop i) (q.drop j) := by
  rw [sameB_seg, beq_iff_eq] at h
  have e1 := seg_more p i hi hp
  have e2 := seg_more q j hj hq
  rw [e1, e2, h, List.append_cons, List.append_cons (seg (q.drop j)) 47 (q.drop (segEnd q j + 1)), specB_append]

/-- the law's last line: a common parent does not turn the answer -/
theorem contB_parent (x p q : List UInt8) (h : p.isEmpty = false) : contB (x ++ 47 :: p) (x ++ 47 :: q) = contB p q := by
  rw [contB_spec, contB_spec, h]
  have : (x ++ 47 :: p).isEmpty = false := by simp
  rw [this, Bool.false_or, Bool.false_or, List.append_cons, List.append_cons x 47 q, specB_append]

end Go.Proofs.Qxb6623482a

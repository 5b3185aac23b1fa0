/-
  The walk of '(quantifier).split', the bounded way.
-/
import Derived.Test.Qxb6623516aSplit
namespace Go.Proofs.Qxb6623516a
open Go.RowKit
set_option linter.unusedVariables false

/-- the bounded parts by their index -/
def loI (qmin qmax most : Int) (j : Nat) : Int := loAt qmin qmax most ((j : Int) * most)
def hiI (qmax most : Int) (j : Nat) : Int := hiAt qmax most ((j : Int) * most)

theorem rest_bounds (qmin T : Int) (hT : 0 ≤ T) (l1 : -9223372036854775808 ≤ qmin) (l2 : qmin ≤ 9223372036854775807) : -9223372036854775808 ≤ rest qmin T ∧ rest qmin T ≤ 9223372036854775807 := by
  unfold rest
  split <;> (try split) <;> omega

/-- one round: the state behind it -/
theorem bd_next (qmin qmax most T least left pmin pmax : Int) (hm : 1 ≤ most) (hT : 0 ≤ T) (hTq : T < qmax) (HL : left = qmax - T) (HS : least = rest qmin T) (h1 : pmax = min most left) (h2 : pmin = min pmax least) (i : Nat) :
    (T + most < qmax ∧ Hid (left - pmax = qmax - (T + most)) ∧ Hid (least - pmin = rest qmin (T + most))) ∨ (left - pmax ≤ 0 ∧ qmax ≤ T + most ∧ (i + 1 = 0 ∨ T + most - most < qmax)) := by
  by_cases h : most < left
  · left
    have e1 : pmax = most := by omega
    refine ⟨by omega, by show left - pmax = _; omega, ?_⟩
    show least - pmin = _
    have := rest_step qmin qmax most T hm hT (by omega)
    unfold loAt hiAt at this
    rw [← this]
    omega
  · right
    omega

theorem bd_part (qmin qmax most T least left pmin pmax : Int) (i : Nat) (HT : (i : Int) * most = T) (HL : left = qmax - T) (HS : least = rest qmin T) (h1 : pmax = min most left) (h2 : pmin = min pmax least) :
    cells3 (loI qmin qmax most) (hiI qmax most) (fun _ => true) (i + 1) = cells3 (loI qmin qmax most) (hiI qmax most) (fun _ => true) i ++ [.int .i64 pmin, .int .i64 pmax, .bool true] := by
  have e1 : loI qmin qmax most i = pmin := by
    unfold loI loAt hiAt
    rw [HT, ← HL, ← HS, ← h1, ← h2]
  have e2 : hiI qmax most i = pmax := by
    unfold hiI hiAt
    rw [HT, ← HL, ← h1]
  rw [cells3_succ, e1, e2]

theorem below_drewN {B : Nat} {a w : World} (h : Below B a w) (m : Nat) : Below B a (w.drewN m) := ⟨h.os, h.tape, h.output, h.size, h.block⟩

/-- three new cells at the head of the second of two new blocks -/
theorem three_new2 (w : World) (o : Obj) (a b : Int) (c : Bool) (j : Nat) (u : Value) (h : ([.int .i64 a, .int .i64 b, .bool c] : List Value)[j]? = some u) :
    ((w.alloc o).alloc (.cells #[.int .i64 a, .int .i64 b, .bool c] 30)).cell? ((⟨w.heap.size + 1, 0, none⟩ : Addr).add j) = some u := by
  have := three_new (w.alloc o) a b c j u h
  rw [World.size_alloc] at this
  exact this

theorem app_below2 {w wr w1 : World} {B : Nat} {v : Value} {n : Nat} {xs : List Value} {o1 o2 : Obj} (hB : Below B w wr) (hsz : B < wr.heap.size) (hown : wr.ownsRow B 30 3 v n xs) (hg : ((wr.alloc o1).alloc o2).grownBy w1 v.ownBlock) :
    Below B w w1 ∧ B < w1.heap.size := by
  have h1 : Below B w w1 := ((hB.alloc (by omega) o1).alloc (by simp; omega) o2).grown hg (by simp; omega) (fun k hk => (hown.lt k hk).1)
  have h2 := hg.size
  rw [World.size_alloc, World.size_alloc] at h2
  exact ⟨h1, by omega⟩

/-- the part's own cells behind the append -/
theorem part_kept {wr w1 : World} {B : Nat} {v : Value} {n : Nat} {xs : List Value} {a b : Int} {o2 : Obj} (hown : wr.ownsRow B 30 3 v n xs) (hg : ((wr.alloc (.cells #[.int .i64 a, .int .i64 b, .bool true] 30)).alloc o2).grownBy w1 v.ownBlock) :
    w1.cell? ⟨wr.heap.size, 0, none⟩ = some (.int .i64 a) ∧ w1.cell? ⟨wr.heap.size, 1, none⟩ = some (.int .i64 b) := by
  have hblk : w1.heap[wr.heap.size]? = ((wr.alloc (.cells #[.int .i64 a, .int .i64 b, .bool true] 30)).alloc o2).heap[wr.heap.size]? := hg.block _ (by simp; omega) (fun e => by
    have := (hown.lt _ e.symm).2
    omega)
  constructor
  · rw [World.cell?_of_block (a := ⟨wr.heap.size, 0, none⟩) hblk, World.cell?_alloc_lt _ _ _ (by simp), World.cell?_alloc_new]; rfl
  · rw [World.cell?_of_block (a := ⟨wr.heap.size, 1, none⟩) hblk, World.cell?_alloc_lt _ _ _ (by simp), World.cell?_alloc_new]; rfl

set_option maxRecDepth 100000 in
set_option maxHeartbeats 1000000 in
theorem split_bd (qmin qmax most : Int) (hm : 1 ≤ most) (hq : qmax < 16385 * most) (l1 : -9223372036854775808 ≤ qmin) (l2 : qmin ≤ 9223372036854775807) (m1 : -9223372036854775808 ≤ qmax) (m2 : qmax ≤ 9223372036854775807) (hm2 : most ≤ 9223372036854775807) (w : World) :
    Calls Try.prog 7 #[.agg #[.int .i64 qmin, .int .i64 qmax, .bool true], .int .i64 most] w fun e w' =>
      ∃ (k : Nat) (v : Value), k < 16386 ∧ qmax ≤ (k : Int) * most ∧ (k = 0 ∨ (k : Int) * most - most < qmax) ∧ e = .returned v ∧
        w'.ownsRow w.heap.size 30 3 v k (cells3 (loI qmin qmax most) (hiI qmax most) (fun _ => true) k) ∧ Below w.heap.size w w' := by
  obtain ⟨i0, hi0, hz0, hz1, hz2⟩ := info_parts Try.info30
  have HQ : Hid (qmax < 16385 * most) := hq
  clear hq
  go_enter Try.func7, Try.ntmps7
  go_wp2
  go_quiet (fail)
  go_wp2
  go_loopw [5, 7, 8] (fun v x y wr => ∃ (i : Nat) (T least left : Int), Hid ((i : Int) * most = T) ∧ i < 16386 ∧ x = .int .i64 least ∧ y = .int .i64 left ∧ 0 ≤ T ∧
      ((T < qmax ∧ Hid (left = qmax - T) ∧ Hid (least = rest qmin T)) ∨ (left ≤ 0 ∧ qmax ≤ T ∧ (i = 0 ∨ T - most < qmax))) ∧
      wr.ownsRow w.heap.size 30 3 v i (cells3 (loI qmin qmax most) (hiI qmax most) (fun _ => true) i) ∧ Below w.heap.size w wr ∧ w.heap.size < wr.heap.size) (fun _ _ y _ => (intOf y).toNat)
  case atStart =>
    refine ⟨0, 0, qmin, qmax, by show ((0 : Nat) : Int) * most = 0; simp, by omega, rfl, rfl, Int.le_refl _, ?_, World.ownsRow_nil _ _ _ _, ?_, by simp⟩
    · by_cases h : 0 < qmax
      · left; exact ⟨h, by show qmax = qmax - 0; omega, by show qmin = rest qmin 0; simp [rest]⟩
      · right; omega
    · exact below_drewN ((Below.refl _ _).alloc (Nat.le_refl _) _) _
  case round =>
    obtain ⟨i, T, least, left, HT, hi, rfl, rfl, hT, hd, hown, hB, hsz⟩ := hrel
    rcases hd with ⟨hTq, HL, HS⟩ | ⟨hl, hTq, hi2⟩
    · have hleft : 0 < left := by have := HL.out; omega
      have hleft2 : left ≤ 9223372036854775807 := by have := HL.out; omega
      have hlb := rest_bounds qmin T hT l1 l2
      rw [← HS.out] at hlb
      obtain ⟨lb1, lb2⟩ := hlb
      have k2 : Hid (((i + 1 : Nat) : Int) * most = T + most) := by
        show ((i + 1 : Nat) : Int) * most = T + most
        rw [mul_succ', HT.out]
      have k1 : Hid (i < 16385) := few i most hm (by have := HQ.out; have := HT.out; omega)
      have hi' : i < 16385 := k1.out
      clear hi
      have N := fun pmin pmax h1 h2 => bd_next qmin qmax most T least left pmin pmax hm hT hTq HL.out HS.out h1 h2 i
      have PT := fun pmin pmax h1 h2 => bd_part qmin qmax most T least left pmin pmax i HT.out HL.out HS.out h1 h2
      by_cases ha : left < most
      · by_cases hb : least < left
        · have N1 : Hid _ := N least left (by omega) (by omega)
          have P1 : Hid _ := PT least left (by omega) (by omega)
          clear N PT
          go_wp2_with (at_builtin; refine wpList_append_own _ rfl (.tmp 46) (.tmp 48) 28 rfl w.heap.size 30 i0 (.agg #[.int .i64 0, .int .i64 0, .bool false]) 3 24 Try.underlying28 hi0 hz0 hz1 hz2 rfl (by decide) _ _ _ rfl ((hown.alloc _).alloc _) ⟨wr.heap.size + 1, 0, none⟩ 1 1 [.int .i64 least, .int .i64 left, .bool true] rfl rfl (three_new2 _ _ _ _ _) (three_one _ _ _) (by unfold maxLen; omega) (by omega) (by simp; omega) ?_)
          intro v' w1 hown' hgrow _
          have R := app_below2 hB hsz hown hgrow
          obtain ⟨c0, c1⟩ := part_kept hown hgrow
          rw [← P1.out] at hown'
          have HO : Hid _ := hown'
          have HR : Hid _ := R
          clear hown' hgrow R hown hB hsz
          go_wp2
          go_roundw
          case rel => exact ⟨i + 1, T + most, least - least, left - left, k2, by omega, by go_num, by go_num, by omega, N1.out, HO.out, HR.out.1, HR.out.2⟩
          case measure => simp [intOf]; omega
        · have hb' : left ≤ least := by omega
          clear hb
          have N1 : Hid _ := N left left (by omega) (by omega)
          have P1 : Hid _ := PT left left (by omega) (by omega)
          clear N PT
          go_wp2_with (at_builtin; refine wpList_append_own _ rfl (.tmp 46) (.tmp 48) 28 rfl w.heap.size 30 i0 (.agg #[.int .i64 0, .int .i64 0, .bool false]) 3 24 Try.underlying28 hi0 hz0 hz1 hz2 rfl (by decide) _ _ _ rfl ((hown.alloc _).alloc _) ⟨wr.heap.size + 1, 0, none⟩ 1 1 [.int .i64 left, .int .i64 left, .bool true] rfl rfl (three_new2 _ _ _ _ _) (three_one _ _ _) (by unfold maxLen; omega) (by omega) (by simp; omega) ?_)
          intro v' w1 hown' hgrow _
          have R := app_below2 hB hsz hown hgrow
          obtain ⟨c0, c1⟩ := part_kept hown hgrow
          rw [← P1.out] at hown'
          have HO : Hid _ := hown'
          have HR : Hid _ := R
          clear hown' hgrow R hown hB hsz
          go_wp2
          go_roundw
          case rel => exact ⟨i + 1, T + most, least - left, left - left, k2, by omega, by go_num, by go_num, by omega, N1.out, HO.out, HR.out.1, HR.out.2⟩
          case measure => simp [intOf]; omega
      · have ha' : most ≤ left := by omega
        clear ha
        by_cases hb : least < most
        · have N1 : Hid _ := N least most (by omega) (by omega)
          have P1 : Hid _ := PT least most (by omega) (by omega)
          clear N PT
          go_wp2_with (at_builtin; refine wpList_append_own _ rfl (.tmp 46) (.tmp 48) 28 rfl w.heap.size 30 i0 (.agg #[.int .i64 0, .int .i64 0, .bool false]) 3 24 Try.underlying28 hi0 hz0 hz1 hz2 rfl (by decide) _ _ _ rfl ((hown.alloc _).alloc _) ⟨wr.heap.size + 1, 0, none⟩ 1 1 [.int .i64 least, .int .i64 most, .bool true] rfl rfl (three_new2 _ _ _ _ _) (three_one _ _ _) (by unfold maxLen; omega) (by omega) (by simp; omega) ?_)
          intro v' w1 hown' hgrow _
          have R := app_below2 hB hsz hown hgrow
          obtain ⟨c0, c1⟩ := part_kept hown hgrow
          rw [← P1.out] at hown'
          have HO : Hid _ := hown'
          have HR : Hid _ := R
          clear hown' hgrow R hown hB hsz
          go_wp2
          go_roundw
          case rel => exact ⟨i + 1, T + most, least - least, left - most, k2, by omega, by go_num, by go_num, by omega, N1.out, HO.out, HR.out.1, HR.out.2⟩
          case measure => simp [intOf]; omega
        · have hb' : most ≤ least := by omega
          clear hb
          have N1 : Hid _ := N most most (by omega) (by omega)
          have P1 : Hid _ := PT most most (by omega) (by omega)
          clear N PT
          go_wp2_with (at_builtin; refine wpList_append_own _ rfl (.tmp 46) (.tmp 48) 28 rfl w.heap.size 30 i0 (.agg #[.int .i64 0, .int .i64 0, .bool false]) 3 24 Try.underlying28 hi0 hz0 hz1 hz2 rfl (by decide) _ _ _ rfl ((hown.alloc _).alloc _) ⟨wr.heap.size + 1, 0, none⟩ 1 1 [.int .i64 most, .int .i64 most, .bool true] rfl rfl (three_new2 _ _ _ _ _) (three_one _ _ _) (by unfold maxLen; omega) (by omega) (by simp; omega) ?_)
          intro v' w1 hown' hgrow _
          have R := app_below2 hB hsz hown hgrow
          obtain ⟨c0, c1⟩ := part_kept hown hgrow
          rw [← P1.out] at hown'
          have HO : Hid _ := hown'
          have HR : Hid _ := R
          clear hown' hgrow R hown hB hsz
          go_wp2
          go_roundw
          case rel => exact ⟨i + 1, T + most, least - most, left - most, k2, by omega, by go_num, by go_num, by omega, N1.out, HO.out, HR.out.1, HR.out.2⟩
          case measure => simp [intOf]; omega
    · go_wp2
      go_ret
      exact ⟨i, _, hi, by rw [HT.out]; exact hTq, by rw [HT.out]; exact hi2, rfl, hown, hB⟩

end Go.Proofs.Qxb6623516a

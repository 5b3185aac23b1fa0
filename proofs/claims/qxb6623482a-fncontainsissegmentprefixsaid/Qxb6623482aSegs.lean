/-
  The walks of zzSegEnd, zzSameSeg and zzSegPrefix.
-/
import Derived.Test.Qxb6623482aPlain
namespace Go.Proofs.Qxb6623482a
open Go.RowKit
set_option linter.unusedVariables false

theorem ret_int {k : IntKind} {a b : Int} (h : a = b) : Ending.returned (.int k a) = .returned (.int k b) := by rw [h]

theorem at_list (s : ByteArray) (k : Nat) (h : k < s.size) (h' : k < s.toList.length) : s.toList[k] = s[k] := by
  simp only [Lib.toList_data]
  rfl

set_option maxHeartbeats 400000 in
theorem segEnd11 (s : ByteArray) (i : Nat) (w : World) (hs : s.size ≤ 1000000) (hi : i ≤ s.size) :
    Calls Try.prog 11 #[.string s, .int .i64 i] w fun e w' => e = .returned (.int .i64 (segEnd s.toList i)) ∧ w' = w := by
  go_enter Try.func11, Try.ntmps11
  go_wp2
  go_loop [5] (fun j => ∃ k : Nat, k ≤ s.size ∧ j = .int .i64 k ∧ segEnd s.toList k = segEnd s.toList i) (fun j => s.size - (intOf j).toNat)
  case atStart => exact ⟨i, hi, rfl, rfl⟩
  case round =>
    obtain ⟨k, hk, rfl, hF⟩ := hrel
    have HF : Hid (segEnd s.toList k = segEnd s.toList i) := hF
    clear hF
    by_cases hlt : k < s.size
    · have hlt' : k < s.toList.length := by rw [← size_list]; exact hlt
      by_cases h47 : s[k] = 47
      · have hh := segEnd_hit s.toList k hlt' (by rw [at_list s k hlt]; exact h47)
        have ht : ((s[k].toNat : Int) == 47) = true := by rw [h47]; rfl
        have HH : Hid (segEnd s.toList k = k) := hh
        clear hh h47 hlt'
        go_wp2
        go_ret
        exact ⟨ret_int (by rw [← HF.out, HH.out]), rfl⟩
      · have hh := segEnd_miss s.toList k hlt' (by rw [at_list s k hlt]; exact h47)
        have ht : ((s[k].toNat : Int) == 47) = false := by
          rw [beq_eq_false_iff_ne]
          intro e
          exact h47 (UInt8.toNat_inj.1 (by have e47 : (47 : UInt8).toNat = 47 := rfl; omega))
        have HH : Hid (segEnd s.toList (k + 1) = segEnd s.toList k) := hh
        clear hh h47 hlt'
        go_wp2
        go_round
        case rel => exact ⟨k + 1, by omega, by go_num, by rw [HH.out, HF.out]⟩
        case measure => simp [intOf]; omega
    · go_wp2
      go_ret
      have hkn : k = s.size := by omega
      exact ⟨ret_int (by rw [← HF.out, hkn, size_list, segEnd_end]), rfl⟩

set_option maxHeartbeats 400000 in
theorem same12_len (a b : ByteArray) (ai aj bi bj : Nat) (w : World) (ha1 : ai ≤ aj) (ha : aj ≤ a.size) (hb1 : bi ≤ bj) (hb : bj ≤ b.size) (has : a.size ≤ 1000000) (hbs : b.size ≤ 1000000) (h : aj - ai ≠ bj - bi) :
    Calls Try.prog 12 #[.string a, .int .i64 ai, .int .i64 aj, .string b, .int .i64 bi, .int .i64 bj] w fun e w' => e = .returned (.bool false) ∧ ∃ m, w' = w.drewN m := by
  have hne : (((aj : Int) - (ai : Int)) != ((bj : Int) - (bi : Int))) = true := by simp; omega
  go_enter Try.func12, Try.ntmps12
  go_wp2
  go_ret
  exact ⟨rfl, 0, rfl⟩

set_option maxHeartbeats 400000 in
theorem same12_run (a b : ByteArray) (ai aj bi bj n : Nat) (w : World) (ha1 : ai + n ≤ aj) (ha2 : aj ≤ ai + n) (hb1 : bi + n ≤ bj) (hb2 : bj ≤ bi + n) (ha : aj ≤ a.size) (hb : bj ≤ b.size) (has : a.size ≤ 1000000) (hbs : b.size ≤ 1000000) :
    Calls Try.prog 12 #[.string a, .int .i64 ai, .int .i64 aj, .string b, .int .i64 bi, .int .i64 bj] w fun e w' => e = .returned (.bool (runB a.toList ai b.toList bi n)) ∧ ∃ m, w' = w.drewN m := by
  have hne : (((aj : Int) - (ai : Int)) != ((bj : Int) - (bi : Int))) = false := by simp; omega
  go_enter Try.func12, Try.ntmps12
  go_wp2
  go_loopw [13] (fun i wr => ∃ k m : Nat, k ≤ n ∧ i = .int .i64 k ∧ wr = w.drewN m ∧ runB a.toList (ai + k) b.toList (bi + k) (n - k) = runB a.toList ai b.toList bi n) (fun i _ => n - (intOf i).toNat)
  case atStart => exact ⟨0, 0, Nat.zero_le _, rfl, rfl, rfl⟩
  case round =>
    obtain ⟨k, m, hk, rfl, rfl, hF⟩ := hrel
    have HF : Hid _ := hF
    clear hF
    by_cases hlt : k < n
    · obtain ⟨r, hr⟩ : ∃ r, n - k = r + 1 := ⟨n - k - 1, by omega⟩
      have HR : Hid (n - k = r + 1) := hr
      clear hr
      have la : ai + k < a.size := by omega
      have lb : bi + k < b.size := by omega
      have la' : ai + k < a.toList.length := by rw [← size_list]; exact la
      have lb' : bi + k < b.toList.length := by rw [← size_list]; exact lb
      have i1 : (0 : Int) ≤ (ai : Int) + (k : Int) := by omega
      have i2 : (ai : Int) + (k : Int) < (a.size : Int) := by omega
      have i3 : ((ai : Int) + (k : Int)).toNat = ai + k := by omega
      have j1 : (0 : Int) ≤ (bi : Int) + (k : Int) := by omega
      have j2 : (bi : Int) + (k : Int) < (b.size : Int) := by omega
      have j3 : ((bi : Int) + (k : Int)).toNat = bi + k := by omega
      by_cases he : a[ai + k] = b[bi + k]
      · have HH : Hid _ := runB_same a.toList (ai + k) b.toList (bi + k) r la' lb' (by rw [at_list a _ la, at_list b _ lb]; exact he)
        have ht : ((a[ai + k].toNat : Int) != (b[bi + k].toNat : Int)) = false := by rw [he]; simp
        clear la' lb' he
        go_wp2
        go_quiet (fail)
        go_wp2
        go_roundw
        case rel => exact ⟨k + 1, _, by omega, by go_num, rfl, by rw [← HF.out, HR.out, ← HH.out]; have hr := HR.out; congr 1; omega⟩
        case measure => simp [intOf]; omega
      · have HH : Hid _ := runB_differ a.toList (ai + k) b.toList (bi + k) r la' lb' (by rw [at_list a _ la, at_list b _ lb]; exact he)
        have ht : ((a[ai + k].toNat : Int) != (b[bi + k].toNat : Int)) = true := by
          rw [bne_iff_ne]
          intro e
          exact he (UInt8.toNat_inj.1 (by omega))
        clear la' lb' he
        go_wp2
        go_quiet (fail)
        go_wp2
        go_ret
        exact ⟨ret_bool (by rw [← HF.out, HR.out, HH.out]), _, World.drewN_drewN _ _ _⟩
    · go_wp2
      go_ret
      have hkn : k = n := by omega
      exact ⟨ret_bool (by rw [← HF.out, hkn, Nat.sub_self, runB_zero]), m, rfl⟩

theorem same12 (a b : ByteArray) (ai aj bi bj : Nat) (w : World) (ha1 : ai ≤ aj) (ha : aj ≤ a.size) (hb1 : bi ≤ bj) (hb : bj ≤ b.size) (has : a.size ≤ 1000000) (hbs : b.size ≤ 1000000) :
    Calls Try.prog 12 #[.string a, .int .i64 ai, .int .i64 aj, .string b, .int .i64 bi, .int .i64 bj] w fun e w' => e = .returned (.bool (sameB a.toList ai aj b.toList bi bj)) ∧ ∃ m, w' = w.drewN m := by
  by_cases h : aj - ai = bj - bi
  · rw [sameB_run _ _ _ _ _ _ h]
    exact same12_run a b ai aj bi bj (aj - ai) w (by omega) (by omega) (by omega) (by omega) ha hb has hbs
  · rw [sameB_len _ _ _ _ _ _ ha1 (by rw [← size_list]; exact ha) hb1 (by rw [← size_list]; exact hb) h]
    exact same12_len a b ai aj bi bj w ha1 ha hb1 hb has hbs h

set_option maxHeartbeats 1000000 in
theorem segPre8 (p q : ByteArray) (w : World) (hp : p.size ≤ 1000000) (hq : q.size ≤ 1000000) :
    Calls Try.prog 8 #[.string p, .string q] w fun e w' => e = .returned (.bool (specB p.toList q.toList)) ∧ ∃ m, w' = w.drewN m := by
  go_enter Try.func8, Try.ntmps8
  go_wp2
  go_loopw [5, 6] (fun x y wr => ∃ i j m : Nat, i ≤ p.size ∧ j ≤ q.size ∧ x = .int .i64 i ∧ y = .int .i64 j ∧ wr = w.drewN m ∧ specB (p.toList.drop i) (q.toList.drop j) = specB p.toList q.toList) (fun x _ _ => p.size - (intOf x).toNat)
  case atStart => exact ⟨0, 0, 0, Nat.zero_le _, Nat.zero_le _, rfl, rfl, rfl, rfl⟩
  case round =>
    obtain ⟨i, j, m, hi, hj, rfl, rfl, rfl, hF⟩ := hrel
    have HF : Hid _ := hF
    clear hF
    have hi' : i ≤ p.toList.length := by rw [← size_list]; exact hi
    have hj' : j ≤ q.toList.length := by rw [← size_list]; exact hj
    have g1 := segEnd_ge p.toList i
    have g2 := segEnd_le p.toList i hi'
    have g3 := segEnd_ge q.toList j
    have g4 := segEnd_le q.toList j hj'
    rw [← size_list] at g2 g4
    have Rno : Hid _ := round_no p.toList q.toList i j
    have Ryes : Hid _ := round_yes p.toList q.toList i j hi' hj'
    have Rshort : Hid _ := round_short p.toList q.toList i j hi' hj'
    have Ron : Hid _ := round_on p.toList q.toList i j hi' hj'
    rw [← size_list] at Ryes Rshort Ron
    rw [← size_list] at Rshort Ron
    clear hi' hj'
    obtain ⟨pe, hpe⟩ : ∃ pe, segEnd p.toList i = pe := ⟨_, rfl⟩
    obtain ⟨qe, hqe⟩ : ∃ qe, segEnd q.toList j = qe := ⟨_, rfl⟩
    obtain ⟨sb, hsb⟩ : ∃ sb, sameB p.toList i pe q.toList j qe = sb := ⟨_, rfl⟩
    rw [hpe, hqe, hsb] at Rno Ryes Rshort Ron
    rw [hpe] at g1 g2
    rw [hqe] at g3 g4
    have HP : Hid _ := hpe
    have HQ : Hid _ := hqe
    have HS : Hid _ := hsb
    clear hpe hqe hsb
    have first3 : ∀ (K : Ending → World → Prop), (∀ m2, K (.returned (.bool sb)) (w.drewN m2)) → Calls Try.prog 12 #[.string p, .int .i64 i, .int .i64 pe, .string q, .int .i64 j, .int .i64 qe] (w.drewN m) K := by
      intro K hK
      refine (same12 p q i pe j qe _ g1 g2 g3 g4 hp hq).mono ?_
      rintro e w' ⟨rfl, m2, rfl⟩
      rw [HS.out, World.drewN_drewN]
      exact hK _
    have F3 : Hid _ := first3
    clear first3
    have c1 : ∀ (K : Ending → World → Prop), K (.returned (.int .i64 pe)) (w.drewN m) → Calls Try.prog 11 #[.string p, .int .i64 i] (w.drewN m) K := by
      intro K hK
      refine (segEnd11 p i _ hp hi).mono ?_
      rintro e w' ⟨rfl, rfl⟩
      rw [HP.out]
      exact hK
    have C1 : Hid _ := c1
    have c2 : ∀ (K : Ending → World → Prop), K (.returned (.int .i64 qe)) (w.drewN m) → Calls Try.prog 11 #[.string q, .int .i64 j] (w.drewN m) K := by
      intro K hK
      refine (segEnd11 q j _ hq hj).mono ?_
      rintro e w' ⟨rfl, rfl⟩
      rw [HQ.out]
      exact hK
    have C2 : Hid _ := c2
    clear c1 c2
    cases sb with
    | false =>
      have R : Hid (specB p.toList q.toList = false) := by rw [← HF.out]; exact Rno.out rfl
      clear Rno Ryes Rshort Ron
      go_wp2_with fail
      refine C1.out _ ?_
      go_wp2_with fail
      refine C2.out _ ?_
      go_wp2_with fail
      refine F3.out _ fun m2 => ?_
      go_wp2_with fail
      go_ret
      exact ⟨ret_bool R.out.symm, _, rfl⟩
    | true =>
      by_cases hpe : pe = p.size
      · have t1 : ((pe : Int) == (p.size : Int)) = true := by simp [hpe]
        have R : Hid (specB p.toList q.toList = true) := by rw [← HF.out]; exact Ryes.out rfl hpe
        clear hpe Rno Ryes Rshort Ron
        go_wp2_with fail
        refine C1.out _ ?_
        go_wp2_with fail
        refine C2.out _ ?_
        go_wp2_with fail
        refine F3.out _ fun m2 => ?_
        go_wp2_with fail
        go_ret
        exact ⟨ret_bool R.out.symm, _, rfl⟩
      · have t1 : ((pe : Int) == (p.size : Int)) = false := by simp; omega
        by_cases hqe : qe = q.size
        · have t2 : ((qe : Int) == (q.size : Int)) = true := by simp [hqe]
          have R : Hid (specB p.toList q.toList = false) := by rw [← HF.out]; exact Rshort.out rfl hpe hqe
          clear hpe hqe Rno Ryes Rshort Ron
          go_wp2_with fail
          refine C1.out _ ?_
          go_wp2_with fail
          refine C2.out _ ?_
          go_wp2_with fail
          refine F3.out _ fun m2 => ?_
          go_wp2_with fail
          go_ret
          exact ⟨ret_bool R.out.symm, _, rfl⟩
        · have t2 : ((qe : Int) == (q.size : Int)) = false := by simp; omega
          have R : Hid (specB (p.toList.drop (pe + 1)) (q.toList.drop (qe + 1)) = specB p.toList q.toList) := by rw [← HF.out]; exact Ron.out rfl hpe hqe
          have hpe' : pe < p.size := by omega
          have hqe' : qe < q.size := by omega
          clear hpe hqe Rno Ryes Rshort Ron
          go_wp2_with fail
          refine C1.out _ ?_
          go_wp2_with fail
          refine C2.out _ ?_
          go_wp2_with fail
          refine F3.out _ fun m2 => ?_
          go_wp2_with fail
          go_roundw
          case rel => exact ⟨pe + 1, qe + 1, m2, by omega, by omega, by go_num, by go_num, rfl, R.out⟩
          case measure => simp [intOf]; omega

end Go.Proofs.Qxb6623482a

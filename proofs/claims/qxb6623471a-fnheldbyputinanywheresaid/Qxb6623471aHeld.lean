/-
  The walk of 'replay.HeldBy' over the seat's translation, and the plain function that it computes.
-/
import Derived.Test.Qxb6623471aRows
import Derived.WalkKit
import Derived.Deep.QuietTactic
import Derived.BigQuiet
import Derived.Outline
namespace Go.Proofs.Qxb6623471a
open Go.RowKit

/-- the place of the first link that holds 'g' back, from place k on, m links to come; -1: none. -/
def firstF (g : Int) (Q U : Nat → Int) : Nat → Nat → Int
  | 0, _ => -1
  | m + 1, k => if wrap64 (Q k - U k) < g then (k : Int) else firstF g Q U m (k + 1)

theorem firstF_hit (g : Int) (Q U : Nat → Int) (m k : Nat) (h : wrap64 (Q k - U k) < g) : firstF g Q U (m + 1) k = k := by
  simp [firstF, h]
theorem firstF_miss (g : Int) (Q U : Nat → Int) (m k : Nat) (h : ¬ wrap64 (Q k - U k) < g) : firstF g Q U (m + 1) k = firstF g Q U m (k + 1) := by
  simp [firstF, h]

theorem ret_int {k : IntKind} {a b : Int} (h : a = b) : Ending.returned (.int k a) = .returned (.int k b) := by rw [h]

set_option maxHeartbeats 400000 in
theorem held_zero (v : Value) (w : World) :
    Calls Try.prog 6 #[v, .int .i64 0] w fun e w' => e = .returned (.int .i64 (-1)) ∧ ∃ m, w' = w.drewN m := by
  go_enter Try.func6, Try.ntmps6
  go_wp2
  go_ret
  exact ⟨rfl, 0, rfl⟩

set_option maxHeartbeats 400000 in
theorem held_some (g : Int) (hg : (g == 0) = false) (b off n cap : Nat) (A : Nat → Nat) (Q U : Nat → Int) (hn : n ≤ 1000000) (w : World)
    (hc : ∀ j, j < n → w.cell? ⟨b, off + j, none⟩ = some (.pointer (some ⟨A j, 0, none⟩)))
    (hq : ∀ j, j < n → w.cell? ⟨A j, 0, none⟩ = some (.int .i64 (Q j)))
    (hu : ∀ j, j < n → w.cell? ⟨A j, 1, none⟩ = some (.int .i64 (U j))) :
    Calls Try.prog 6 #[.slice (some ⟨b, off, none⟩) n cap, .int .i64 g] w fun e w' => e = .returned (.int .i64 (firstF g Q U n 0)) ∧ ∃ m, w' = w.drewN m := by
  go_enter Try.func6, Try.ntmps6
  go_wp2
  go_loopw [11] (fun i wr => ∃ k m : Nat, k ≤ n ∧ i = .int .i64 k ∧ wr = w.drewN m ∧ firstF g Q U (n - k) k = firstF g Q U n 0) (fun i _ => n - (intOf i).toNat)
  case atStart => exact ⟨0, 0, Nat.zero_le _, rfl, rfl, rfl⟩
  case round =>
    obtain ⟨k, m, hk, rfl, rfl, hF⟩ := hrel
    by_cases hlt : k < n
    · have c0 := hc k hlt
      have c1 := hq k hlt
      have c2 := hu k hlt
      have HF : Hid (firstF g Q U (n - k) k = firstF g Q U n 0) := hF
      obtain ⟨r, hr⟩ : ∃ r, n - k = r + 1 := ⟨n - k - 1, by omega⟩
      have HR : Hid (n - k = r + 1) := hr
      clear hF hr
      by_cases hh : wrap64 (Q k - U k) < g
      · go_wp2
        go_quiet (fail)
        go_wp2
        go_ret
        exact ⟨ret_int (by rw [← HF.out, HR.out, firstF_hit _ _ _ _ _ hh]), _, World.drewN_drewN _ _ _⟩
      · go_wp2
        go_quiet (fail)
        go_wp2
        go_roundw
        case rel => exact ⟨k + 1, _, by omega, by go_num, rfl, by rw [← HF.out, HR.out, firstF_miss _ _ _ _ _ (by omega)]; congr 1; have := HR.out; omega⟩
        case measure => simp [intOf]; omega
    · go_wp2
      go_ret
      exact ⟨ret_int (by rw [← hF, show n - k = 0 by omega]; rfl), m, rfl⟩

end Go.Proofs.Qxb6623471a

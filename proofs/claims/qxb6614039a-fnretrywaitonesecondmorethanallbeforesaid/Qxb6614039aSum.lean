/-
  The walk of the law FnRetryWaitOneSecondMoreThanAllBefore (4) (seat b6614039a).
-/
import Derived.Test.Qxb6614039aWait
namespace Go.Proofs.Qxb6614039a
open Go.ChangeShapes Go.WideShapes Go.RowKit

set_option maxHeartbeats 400000 in
theorem sum_out (n : Int) (w : World) (h : n < 1 ∨ 65536 < n) :
    Calls Try.prog 4 #[.int .i64 n] w fun e w' => e = .returned (.bool true) ∧ Grown w w' := by
  rcases h with h | h
  · go_enter Try.func4, Try.ntmps4
    go_wp2
    go_ret
    exact ⟨rfl, Grown.refl _⟩
  · go_enter Try.func4, Try.ntmps4
    go_wp2
    go_ret
    exact ⟨rfl, Grown.refl _⟩

set_option maxHeartbeats 400000 in
theorem sum_in (m : Nat) (w : World) (h1 : m < 65536) :
    Calls Try.prog 4 #[.int .i64 ((m : Int) + 1)] w fun e w' => e = .returned (.bool true) ∧ Grown w w' := by
  go_enter Try.func4, Try.ntmps4
  go_wp2
  go_loop [3, 4] (fun s i => ∃ k : Nat, k ≤ m ∧ i = .int .i64 ((k : Int) + 1) ∧ s = .int .i64 (wait k)) (fun _ i => m + 1 - (intOf i).toNat)
  case atStart => exact ⟨0, Nat.zero_le _, rfl, by rw [wait_zero]⟩
  case round =>
    obtain ⟨k, hk, rfl, rfl⟩ := hrel
    by_cases hlt : k < m
    · have HS := hide (wait_succ k)
      go_wp2_with fail
      refine (zzretry_at k _ (by omega)).mono ?_
      rintro e w' ⟨rfl, h⟩
      subst w'
      go_wp2
      go_round
      case rel => exact ⟨k + 1, by omega, by go_num, by rw [← HS.out]⟩
      case measure => simp [intOf]; omega
    · obtain rfl : k = m := by omega
      go_wp2_with fail
      refine (zzretry_at k _ (by omega)).mono ?_
      rintro e w' ⟨rfl, h⟩
      subst w'
      go_wp2
      go_ret
      exact ⟨ret_bool (by simp), Grown.refl _⟩
end Go.Proofs.Qxb6614039a

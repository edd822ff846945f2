/-
  The walks of zzDoublings (6) and of the law FnRetryWaitDoublesFromOneSecond (3) (seat b6614039a).
-/
import Derived.Test.Qxb6614039aWait
namespace Go.Proofs.Qxb6614039a
open Go.ChangeShapes Go.WideShapes Go.RowKit

set_option maxHeartbeats 400000 in
theorem dbl_any (m : Nat) (w : World) (h1 : (m : Int) + 1 ≤ 9223372036854775807) :
    Calls Try.prog 6 #[.int .i64 ((m : Int) + 1)] w fun e w' => e = .returned (.int .i64 (wait m)) ∧ w' = w := by
  go_enter Try.func6, Try.ntmps6
  go_wp2
  go_loop [3, 4] (fun s i => ∃ k : Nat, k ≤ m ∧ i = .int .i64 ((k : Int) + 1) ∧ s = .int .i64 (wait k)) (fun _ i => m + 1 - (intOf i).toNat)
  case atStart => exact ⟨0, Nat.zero_le _, rfl, by rw [wait_zero]⟩
  case round =>
    obtain ⟨k, hk, rfl, rfl⟩ := hrel
    by_cases hlt : k < m
    · by_cases hz : wait k = 0
      · have HF := hide (wait_stays k hz (m - k))
        have HZ := hide hz
        have hb : (wait k != 0) = false := by simp [hz]
        clear hz
        go_wp2
        go_ret
        refine ⟨ret_int ?_, rfl⟩
        have e := HF.out
        rw [show k + (m - k) = m from by omega] at e
        rw [e]
        first | exact HZ.out | rfl
      · have HS := hide (wait_succ k)
        have hb : (wait k != 0) = true := by simp [hz]
        have hb2 : (wait k == 0) = false := by simp [hz]
        clear hz
        go_wp2
        go_round
        case rel => exact ⟨k + 1, by omega, by go_num, by rw [← HS.out]⟩
        case measure => simp [intOf]; omega
    · obtain rfl : k = m := by omega
      go_wp2
      go_ret
      exact ⟨rfl, rfl⟩

set_option maxHeartbeats 400000 in
theorem dbl_out (n : Int) (w : World) (h : n < 1) :
    Calls Try.prog 3 #[.int .i64 n] w fun e w' => e = .returned (.bool true) ∧ Grown w w' := by
  go_enter Try.func3, Try.ntmps3
  go_wp2
  go_ret
  exact ⟨rfl, Grown.refl _⟩

set_option maxHeartbeats 400000 in
theorem dbl_core (n n2 v1 v2 : Int) (w : World) (hn : 1 ≤ n) (hn2 : wrap64 (n + 1) = n2) (hs : wrap64 (v1 + v1) = v2)
    (H1 : Hid (Calls Try.prog 5 #[.int .i64 n] w fun e w' => e = .returned (.int .i64 v1) ∧ w' = w))
    (H2 : Hid (Calls Try.prog 5 #[.int .i64 n2] w fun e w' => e = .returned (.int .i64 v2) ∧ w' = w))
    (H3 : Hid (Calls Try.prog 6 #[.int .i64 n] w fun e w' => e = .returned (.int .i64 v1) ∧ w' = w)) :
    Calls Try.prog 3 #[.int .i64 n] w fun e w' => e = .returned (.bool true) ∧ Grown w w' := by
  go_enter Try.func3, Try.ntmps3
  go_wp2_with fail
  refine Calls.mono H1.out ?_
  rintro e w' ⟨rfl, h⟩
  subst w'
  go_wp2_with fail
  refine Calls.mono H2.out ?_
  rintro e w' ⟨rfl, h⟩
  subst w'
  go_wp2_with fail
  refine Calls.mono H3.out ?_
  rintro e w' ⟨rfl, h⟩
  subst w'
  go_wp2
  go_ret
  exact ⟨ret_bool (by simp), Grown.refl _⟩

theorem dbl_in (m : Nat) (w : World) (h1 : (m : Int) + 1 ≤ 9223372036854775807) :
    Calls Try.prog 3 #[.int .i64 ((m : Int) + 1)] w fun e w' => e = .returned (.bool true) ∧ Grown w w' :=
  dbl_core ((m : Int) + 1) (wrap64 ((m : Int) + 1 + 1)) (wait m) (wait (m + 1)) w (by omega) rfl (wait_succ m) (zzretry_at m w h1)
    (zzretry_any _ ((m : Int) + 1) (wait (m + 1)) w (by unfold wrap64; omega) (by omega) (by rw [show ((m : Int) + 1).toNat = m + 1 from by omega]; exact wait_min (m + 1)))
    (dbl_any m w h1)
end Go.Proofs.Qxb6614039a

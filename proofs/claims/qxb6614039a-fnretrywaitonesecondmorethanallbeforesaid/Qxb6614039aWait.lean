/-
  The plain function 'wait' and the contracts of retryWait (7), ZZretryWait (5), zzDoublings (6) (seat b6614039a).
-/
import Derived.Test.Qxb6614039aRows
import Derived.WalkKit
namespace Go.Proofs.Qxb6614039a
open Go.ChangeShapes Go.WideShapes Go.RowKit

/-- one second in nanoseconds, doubled k times, in int64's wrapping arithmetic -/
def wait (k : Nat) : Int := wrap64 (1000000000 * 2 ^ k)

theorem wait_zero : wait 0 = 1000000000 := by unfold wait wrap64; omega

theorem wait_succ (k : Nat) : wrap64 (wait k + wait k) = wait (k + 1) := by
  unfold wait wrap64
  rw [Int.pow_succ]
  generalize (2 : Int) ^ k = x
  omega

theorem pow_split (k : Nat) (h : 64 ≤ k) : ∃ y : Int, (2 : Int) ^ k = 18446744073709551616 * y := by
  refine ⟨2 ^ (k - 64), ?_⟩
  rw [show (18446744073709551616 : Int) = 2 ^ 64 from by decide, ← Int.pow_add]
  congr 1
  omega

theorem wait_big (k : Nat) (h : 64 ≤ k) : wait k = 0 := by
  obtain ⟨y, hy⟩ := pow_split k h
  unfold wait wrap64
  rw [hy]
  omega

theorem wait_min (k : Nat) : wrap64 (1000000000 * 2 ^ min k 64) = wait k := by
  by_cases h : k ≤ 64
  · rw [Nat.min_eq_left h]
    rfl
  · rw [Nat.min_eq_right (by omega), wait_big k (by omega)]
    exact wait_big 64 (by omega)

/-- once it is zero it stays zero -/
theorem wait_stays (k : Nat) (h : wait k = 0) (j : Nat) : wait (k + j) = 0 := by
  induction j with
  | zero => exact h
  | succ j ih =>
    rw [← Nat.add_assoc, ← wait_succ, ih]
    unfold wrap64
    omega

theorem wait_wf (k : Nat) : -9223372036854775808 ≤ wait k ∧ wait k ≤ 9223372036854775807 := by
  unfold wait wrap64
  omega

theorem ret_int {k : IntKind} {a b : Int} (h : a = b) : Ending.returned (.int k a) = .returned (.int k b) := by rw [h]
theorem ret_bool {x : Bool} (h : x = true) : Ending.returned (.bool x) = .returned (.bool true) := by rw [h]
theorem hide {p : Prop} (h : p) : Hid p := h

set_option maxHeartbeats 400000 in
theorem retry_any (n c v : Int) (w : World) (hc : wrap64 (n - 1) = c) (h0 : 0 ≤ c) (hv : wrap64 (1000000000 * 2 ^ min c.toNat 64) = v) :
    Calls Try.prog 7 #[.int .i64 n] w fun e w' => e = .returned (.int .i64 v) ∧ w' = w := by
  have HV : Hid (wrap64 (1000000000 * 2 ^ min c.toNat 64) = v) := hv
  clear hv
  go_enter Try.func7, Try.ntmps7
  go_wp2
  go_ret
  exact ⟨ret_int HV.out, rfl⟩

set_option maxHeartbeats 400000 in
theorem zzretry_any (n c v : Int) (w : World) (hc : wrap64 (n - 1) = c) (h0 : 0 ≤ c) (hv : wrap64 (1000000000 * 2 ^ min c.toNat 64) = v) :
    Calls Try.prog 5 #[.int .i64 n] w fun e w' => e = .returned (.int .i64 v) ∧ w' = w := by
  have HV := hide hv
  have HC := hide hc
  clear hv hc
  go_enter Try.func5, Try.ntmps5
  go_wp2_with fail
  refine (retry_any n c v _ HC.out h0 HV.out).mono ?_
  rintro e w' ⟨rfl, h⟩
  subst w'
  go_wp2
  go_ret
  exact ⟨rfl, rfl⟩

/-- the wait after the (k+1)-th failure -/
theorem zzretry_at (k : Nat) (w : World) (hk : (k : Int) + 1 ≤ 9223372036854775807) :
    Calls Try.prog 5 #[.int .i64 ((k : Int) + 1)] w fun e w' => e = .returned (.int .i64 (wait k)) ∧ w' = w :=
  zzretry_any ((k : Int) + 1) k (wait k) w (by unfold wrap64; omega) (by omega) (by rw [Int.toNat_natCast]; exact wait_min k)
end Go.Proofs.Qxb6614039a

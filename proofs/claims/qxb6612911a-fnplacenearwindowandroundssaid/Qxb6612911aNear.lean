/-
  The walks of placeNear (5), ZZplaceNear (4) and the law FnPlaceNearWindowAndRounds (3), and the plain law behind them (seat b6612911a).
-/
import Derived.Test.Qxb6612911aRows
import Derived.WalkKit
namespace Go.Proofs.Qxb6612911a
open Go.ChangeShapes Go.WideShapes Go.RowKit

theorem ret_int {k : IntKind} {a b : Int} (h : a = b) : Ending.returned (.int k a) = .returned (.int k b) := by rw [h]
theorem ret_bool {x : Bool} (h : x = true) : Ending.returned (.bool x) = .returned (.bool true) := by rw [h]

/-- the place nearest to n that bears s in its low 16 bits -/
def near (n s : Int) : Int := n + ((s - n + 32768) % 65536 - 32768)

theorem u16_is (x : Int) : IntKind.u16.wrap x = x % 65536 := by
  simp [IntKind.wrap, IntKind.bits, IntKind.signed]

theorem i16_is (x : Int) : IntKind.i16.wrap x = (x + 32768) % 65536 - 32768 := by
  simp [IntKind.wrap, IntKind.bits, IntKind.signed]
  split <;> omega

theorem near_is (n s : Int) (n0 : -9223372036854743040 ≤ n) (n1 : n ≤ 9223372036854743040) :
    wrap64 (n + wrap64 (IntKind.i16.wrap (IntKind.u16.wrap (s - IntKind.u16.wrap n)))) = near n s := by
  rw [u16_is, u16_is, i16_is]
  unfold near wrap64
  omega

theorem near_low (n s : Int) (s0 : 0 ≤ s) (s1 : s ≤ 65535) : IntKind.u16.wrap (near n s) = s := by
  rw [u16_is]
  unfold near
  omega

theorem near_window (n s : Int) : -32768 ≤ near n s - n ∧ near n s - n ≤ 32767 := by
  unfold near
  omega

theorem near_rounds (n s k : Int) : near (n + k * 65536) s = near n s + k * 65536 := by
  unfold near
  omega

set_option maxHeartbeats 400000 in
theorem place_any (n s : Int) (w : World) (n0 : -9223372036854743040 ≤ n) (n1 : n ≤ 9223372036854743040) :
    Calls Try.prog 5 #[.int .i64 n, .int .u16 s] w fun e w' => e = .returned (.int .i64 (near n s)) ∧ w' = w := by
  have H : Hid (wrap64 (n + wrap64 (IntKind.i16.wrap (IntKind.u16.wrap (s - IntKind.u16.wrap n)))) = near n s) := near_is n s n0 n1
  clear n0 n1
  go_enter Try.func5, Try.ntmps5
  go_wp2
  go_ret
  exact ⟨ret_int H.out, rfl⟩

set_option maxHeartbeats 400000 in
theorem zzplace_any (n s : Int) (w : World) (n0 : -9223372036854743040 ≤ n) (n1 : n ≤ 9223372036854743040) :
    Calls Try.prog 4 #[.int .i64 n, .int .u16 s] w fun e w' => e = .returned (.int .i64 (near n s)) ∧ w' = w := by
  go_enter Try.func4, Try.ntmps4
  go_wp2_with fail
  refine (place_any n s _ n0 n1).mono ?_
  rintro e w' ⟨rfl, h⟩
  subst w'
  go_wp2
  go_ret
  exact ⟨rfl, rfl⟩

set_option maxHeartbeats 1000000 in
theorem law_out (n s k : Int) (w : World)
    (h : n < -9223372036854743040 ∨ 9223372036854743040 < n ∨ (-9223372036854743040 ≤ n ∧ n ≤ 9223372036854743040 ∧ k < -1099511627776) ∨ (-9223372036854743040 ≤ n ∧ n ≤ 9223372036854743040 ∧ 1099511627776 < k) ∨
      (-9223372036854743040 ≤ n ∧ n ≤ 9223372036854743040 ∧ 0 < k ∧ k ≤ 1099511627776 ∧ 9223372036854743040 - k * 65536 < n) ∨
      (-9223372036854743040 ≤ n ∧ n ≤ 9223372036854743040 ∧ -1099511627776 ≤ k ∧ k < 0 ∧ n < -9223372036854743040 - k * 65536)) :
    Calls Try.prog 3 #[.int .i64 n, .int .u16 s, .int .i64 k] w fun e w' => e = .returned (.bool true) ∧ Grown w w' := by
  rcases h with h | h | ⟨h, g, f⟩ | ⟨h, g, f⟩ | ⟨h, g, f, f2, f3⟩ | ⟨h, g, f, f2, f3⟩
  all_goals
    go_enter Try.func3, Try.ntmps3
    go_wp2
    go_ret
    exact ⟨rfl, Grown.refl _⟩

set_option maxHeartbeats 1000000 in
theorem law_core (n s k r : Int) (w : World) (n0 : -9223372036854743040 ≤ n) (n1 : n ≤ 9223372036854743040) (k0 : -1099511627776 ≤ k) (k1 : k ≤ 1099511627776)
    (m0 : -9223372036854743040 ≤ n + k * 65536) (m1 : n + k * 65536 ≤ 9223372036854743040) (d0 : -32768 ≤ r - n) (d1 : r - n ≤ 32767) (hu : IntKind.u16.wrap r = s)
    (H1 : Hid (Calls Try.prog 4 #[.int .i64 n, .int .u16 s] w fun e w' => e = .returned (.int .i64 r) ∧ w' = w))
    (H2 : Hid (Calls Try.prog 4 #[.int .i64 (n + k * 65536), .int .u16 s] w fun e w' => e = .returned (.int .i64 (r + k * 65536)) ∧ w' = w)) :
    Calls Try.prog 3 #[.int .i64 n, .int .u16 s, .int .i64 k] w fun e w' => e = .returned (.bool true) ∧ Grown w w' := by
  rcases (show k < 0 ∨ (k ≤ 0 ∧ 0 ≤ k) ∨ 0 < k from by omega) with hk | ⟨hk, hk2⟩ | hk
  all_goals
    go_enter Try.func3, Try.ntmps3
    go_wp2_with fail
    refine Calls.mono H1.out ?_
    rintro e w' ⟨rfl, h⟩
    subst w'
    go_wp2_with fail
    refine Calls.mono H2.out ?_
    rintro e w' ⟨rfl, h⟩
    subst w'
    clear H1 H2
    go_wp2
    go_ret
    exact ⟨rfl, Grown.refl _⟩

theorem law_in (n s k : Int) (w : World) (s0 : 0 ≤ s) (s1 : s ≤ 65535) (n0 : -9223372036854743040 ≤ n) (n1 : n ≤ 9223372036854743040) (k0 : -1099511627776 ≤ k) (k1 : k ≤ 1099511627776)
    (m0 : -9223372036854743040 ≤ n + k * 65536) (m1 : n + k * 65536 ≤ 9223372036854743040) :
    Calls Try.prog 3 #[.int .i64 n, .int .u16 s, .int .i64 k] w fun e w' => e = .returned (.bool true) ∧ Grown w w' := by
  have h2 := zzplace_any (n + k * 65536) s w m0 m1
  rw [near_rounds] at h2
  exact law_core n s k (near n s) w n0 n1 k0 k1 m0 m1 (near_window n s).1 (near_window n s).2 (near_low n s s0 s1) (zzplace_any n s w n0 n1) h2
end Go.Proofs.Qxb6612911a

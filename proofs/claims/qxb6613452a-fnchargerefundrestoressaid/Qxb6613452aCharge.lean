/-
  The walks of charge (5), ZZcharge (4) and the law FnChargeRefundRestores (3), and the plain law behind them (seat b6613452a).
-/
import Derived.Test.Qxb6613452aRows
import Derived.WalkKit
namespace Go.Proofs.Qxb6613452a
open Go.ChangeShapes Go.WideShapes Go.RowKit

set_option maxHeartbeats 400000 in
theorem charge_any (g : Nat) (b p d : Int) (w : World) (hd : wrap64 (b - p) = d) (hc : w.cell? ⟨g, 0, none⟩ = some (.int .i64 b)) (hf : w.frozen? ⟨g, 0, none⟩ = false) :
    Calls Try.prog 5 #[.pointer (some ⟨g, 0, none⟩), .int .i64 p] w fun e w' => e = .returned (.bool (decide (0 ≤ d))) ∧ w' = w.setCell ⟨g, 0, none⟩ (.int .i64 d) := by
  go_enter Try.func5, Try.ntmps5
  go_wp2
  go_ret
  exact ⟨rfl, rfl⟩

set_option maxHeartbeats 400000 in
theorem zzcharge_any (b p d : Int) (w : World) (hd : wrap64 (b - p) = d) :
    Calls Try.prog 4 #[.int .i64 b, .int .i64 p] w fun e w' => e = .returned (.tuple #[.int .i64 d, .bool (decide (0 ≤ d))]) ∧ w' = w.alloc (.cells #[.int .i64 d] 25) := by
  have HD : Hid (wrap64 (b - p) = d) := hd
  clear hd
  go_enter Try.func4, Try.ntmps4
  go_wp2_with fail
  refine (charge_any w.heap.size b p d _ HD.out (by simp) (by simp)).mono ?_
  rintro e w' ⟨rfl, h⟩
  subst w'
  go_wp2
  go_ret2
  exact ⟨rfl, rfl⟩

theorem ret_bool {x : Bool} (h : x = true) : Ending.returned (.bool x) = .returned (.bool true) := by rw [h]
theorem or_of_right {x y : Bool} (h : y = true) : (x || y) = true := by rw [h, Bool.or_true]
theorem beq_decide {p q : Prop} [Decidable p] [Decidable q] (h : p ↔ q) : (decide p == decide q) = true := by simp [h]

set_option maxHeartbeats 1000000 in
theorem walk0 (b p d q : Int) (w : World) (hd : wrap64 (b - p) = d) (hq : wrap64 (-p) = q) (hb : wrap64 (d - q) = b) (hp : wrap64 (d + p) = b)
    (H : Hid ((0 < p ∧ d ≤ b) ∨ (p < 0 ∧ b ≤ d) ∨ p = 0 → (0 ≤ d ↔ p ≤ b))) :
    Calls Try.prog 3 #[.int .i64 b, .int .i64 p] w fun e w' => e = .returned (.bool true) ∧ Grown w w' := by
  have HD : Hid (wrap64 (b - p) = d) := hd
  have HB : Hid (wrap64 (d - q) = b) := hb
  clear hb
  go_enter Try.func3, Try.ntmps3
  go_wp2_with fail
  refine (zzcharge_any b p d _ HD.out).mono ?_
  rintro e w' ⟨rfl, h⟩
  subst w'
  go_wp2_with fail
  refine (zzcharge_any d q b _ HB.out).mono ?_
  rintro e w' ⟨rfl, h⟩
  subst w'
  clear HD HB
  go_wp2
  all_goals go_ret
  all_goals refine ⟨ret_bool ?_, ((Grown.refl _).alloc _ _).alloc _ _⟩
  · exact or_of_right (beq_decide (H.out (by omega)))
  · rfl
  · exact or_of_right (beq_decide (H.out (by omega)))
  · rfl
  · exact beq_decide (H.out (by omega))

theorem law (b p : Int) (b0 : -9223372036854775808 ≤ b) (b1 : b ≤ 9223372036854775807) (p0 : -9223372036854775808 ≤ p) (p1 : p ≤ 9223372036854775807) :
    wrap64 (wrap64 (b - p) - wrap64 (-p)) = b ∧ wrap64 (wrap64 (b - p) + p) = b ∧
      ((0 < p ∧ wrap64 (b - p) ≤ b) ∨ (p < 0 ∧ b ≤ wrap64 (b - p)) ∨ p = 0 → (0 ≤ wrap64 (b - p) ↔ p ≤ b)) := by
  simp only [wrap64]
  refine ⟨by omega, by omega, by omega⟩
end Go.Proofs.Qxb6613452a

/-
  The law itself (3): no site at all (n = 0), and lengths out of its bounds (seat b6613252a).
-/
import Derived.Test.Qxb6613252aLaws
import Derived.Laws.Cover3
namespace Go.Proofs.Qxb6613252a
open Go.ChangeShapes Go.WideShapes Go.RowKit

set_option maxHeartbeats 2000000 in
theorem main_zero (a0 a1 a2 : Option Addr) (m c0 c1 c2 : Nat) (T : Nat → Int) (w : World) (hm : m ≤ 65536)
    (h2 : ∀ j, j < m → ∃ ad2, a2 = some ad2 ∧ ad2.block < w.heap.size ∧ w.cell? (ad2.add j) = some (.int .i64 (T j))) :
    Calls Try.prog 3 #[.slice a0 0 c0, .slice a1 0 c1, .slice a2 m c2] w fun e w' => e = .returned (.bool true) ∧ w.Since w.heap.size w' := by
  have mk0 : ∀ w : World, (Instr.makeSlice 22 (.int .i64 0) (.int .i64 0)).run Try.prog w = .ok (.slice (some ⟨w.heap.size, 0, none⟩) 0 0) (w.alloc (.cells (madeCells #[.bool false] 0) 4)) :=
    run_make_row' (P := Try.prog) 22 4 (.bool false) 1 Try.underlying22 info4 rfl .i64 .i64 0 (by omega) (by omega)
  have mk1 : ∀ w : World, (Instr.makeSlice 23 (.int .i64 0) (.int .i64 0)).run Try.prog w = .ok (.slice (some ⟨w.heap.size, 0, none⟩) 0 0) (w.alloc (.cells (madeCells #[.int .i64 0] 0) 3)) :=
    run_make_row' (P := Try.prog) 23 3 (.int .i64 0) 8 Try.underlying23 info3 rfl .i64 .i64 0 (by omega) (by omega)
  have mk2 : ∀ w : World, (Instr.makeSlice 22 (.int .i64 1) (.int .i64 1)).run Try.prog w = .ok (.slice (some ⟨w.heap.size, 0, none⟩) 1 1) (w.alloc (.cells (madeCells #[.bool false] 1) 4)) :=
    run_make_row' (P := Try.prog) 22 4 (.bool false) 1 Try.underlying22 info4 rfl .i64 .i64 1 (by omega) (by omega)
  have cp0 : ∀ (w : World) (d s : Option Addr) (c : Nat), (Builtin.copy_ #[22, 22] 3 #[.slice d 0 0, .slice s 0 c]).run Try.prog w = .ok (goInt 0) w := fun w d s c => run_copy_none (P := Try.prog) w 22 22 3 4 d s 0 0 0 c Try.underlying22 size4 rfl
  have cp1 : ∀ (w : World) (d s : Option Addr) (c : Nat), (Builtin.copy_ #[23, 23] 3 #[.slice d 0 0, .slice s 0 c]).run Try.prog w = .ok (goInt 0) w := fun w d s c => run_copy_none (P := Try.prog) w 23 23 3 3 d s 0 0 0 c Try.underlying23 size3 rfl
  go_enter Try.func3, Try.ntmps3
  go_wp2_with (first
    | (go_at_call 4; refine (bytes_any _ _ _ _ _ _ _ _ _ _).mono ?_; intro e w' h; obtain ⟨⟨b, rfl⟩, h2⟩ := h; subst w'; rcases a0 with _ | ad0 <;> rcases a1 with _ | ad1))
  all_goals first
    | (go_ret; exact ⟨rfl, World.Since.refl _ _⟩)
    | skip
  all_goals
    clear mk0 mk1 mk2 cp0 cp1
    go_loopw [76] (fun i wr => i = .int .i64 0 ∧ w.Since w.heap.size wr) (fun _ _ => 0)
  all_goals first
    | (case atStart => exact ⟨rfl, by repeat (first | exact World.Since.refl _ _ | refine World.Since.alloc ?_ (by simp <;> omega) _)⟩)
    | skip
  all_goals
    obtain ⟨rfl, hsi⟩ := hrel
    by_cases hlt : 0 < m
    · obtain ⟨ad2, rfl, hb2, hc2⟩ := h2 0 hlt
      have hc : wr.cell? ad2 = some (.int .i64 (T 0)) := (hsi.cell (add_block_lt hb2 0)).trans hc2
      clear hc2 h2
      by_cases g1 : T 0 < 1
      · go_wp2
        go_ret
        exact ⟨rfl, hsi⟩
      · have g2 : 0 < T 0 := by omega
        go_wp2
        go_ret
        exact ⟨rfl, hsi⟩
    · obtain rfl : m = 0 := by omega
      clear h2
      go_wp2_with fail
      refine (new_zero _ _ _ _ wr).mono ?_
      rintro e w1 ⟨rfl, hs1, _⟩
      have hs := hsi.trans (⟨hs1.os, hs1.tape, hs1.output, hs1.size, fun k hk => hs1.block k (by have := hsi.size; omega)⟩ : wr.Since w.heap.size w1)
      clear hs1 hsi
      go_wp2_with fail
      refine wp_loop_rounds 1 ?_
      rw [rounds_succ]
      go_wp2_with fail
      refine wp_loop_rounds 1 ?_
      rw [rounds_succ]
      go_wp2
      go_ret
      exact ⟨rfl, hs⟩

set_option maxHeartbeats 2000000 in
theorem main_big (a0 a1 a2 : Option Addr) (n0 n1 n2 c0 c1 c2 : Nat) (w : World) (m0 : n0 ≤ 9223372036854775807) (m1 : n1 ≤ 9223372036854775807) (m2 : n2 ≤ 9223372036854775807)
    (h : 65536 < n0 ∨ (n0 ≤ 65536 ∧ 65536 < n1) ∨ (n0 ≤ 65536 ∧ n1 ≤ 65536 ∧ 65536 < n2) ∨ (n0 ≤ 65536 ∧ n1 ≤ 65536 ∧ n2 ≤ 65536 ∧ 1048576 < n0 + 8 * n1 + 8 * n2) ∨ (n0 ≤ 65536 ∧ n1 ≤ 65536 ∧ n2 ≤ 65536 ∧ n0 + 8 * n1 + 8 * n2 ≤ 1048576 ∧ n1 ≠ n0)) :
    Calls Try.prog 3 #[.slice a0 n0 c0, .slice a1 n1 c1, .slice a2 n2 c2] w fun e w' => e = .returned (.bool true) ∧ w.Since w.heap.size w' := by
  rcases h with h | ⟨h, g⟩ | ⟨h, g, g2⟩ | ⟨h, g, g2, g3⟩ | ⟨h, g, g2, g3, g4⟩
  case' inr.inr.inr.inr =>
    have g5 : ((n1 : Int) != (n0 : Int)) = true := by rw [bne_iff_ne]; omega
    have g6 : ((n1 : Int) == (n0 : Int)) = false := by rw [beq_eq_false_iff_ne]; omega
  all_goals
    go_enter Try.func3, Try.ntmps3
    go_wp2_with (first
      | (go_at_call 4; refine (bytes_any _ _ _ _ _ _ _ _ _ _).mono ?_; intro e w' h; obtain ⟨⟨b, rfl⟩, h2⟩ := h; subst w'))
    all_goals
      go_ret
      exact ⟨rfl, World.Since.refl _ _⟩
end Go.Proofs.Qxb6613252a

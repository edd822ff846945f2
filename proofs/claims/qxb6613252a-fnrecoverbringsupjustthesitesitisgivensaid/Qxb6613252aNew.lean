/-
  ZZnewStoreSites (5): its contract (seat b6613252a).
-/
import Derived.Test.Qxb6613252aCalls
import Derived.Deep.LoopGhost
import Derived.BigRegion
namespace Go.Proofs.Qxb6613252a
open Go.ChangeShapes Go.WideShapes Go.RowKit
theorem info40 : (Try.prog.info? 40).map (fun i => (i.zero, i.size, i.bytes)) = some (some (.agg #[.bool false, .int .i64 0, .slice none 0 0]), 3, 40) := by kernel_rfl
theorem info4 : (Try.prog.info? 4).map (fun i => (i.zero, i.size, i.bytes)) = some (some (.bool false), 1, 1) := by kernel_rfl
theorem info3 : (Try.prog.info? 3).map (fun i => (i.zero, i.size, i.bytes)) = some (some (.int .i64 0), 1, 8) := by kernel_rfl

theorem make_sites (n : Nat) (hn : n ≤ 65536) (w : World) :
    (Instr.makeSlice 30 (.int .i64 ((n : Int) + 1)) (.int .i64 ((n : Int) + 1))).run Try.prog w = .ok (.slice (some ⟨w.heap.size, 0, none⟩) (n + 1) (n + 1)) (w.alloc (.cells (madeCells #[.bool false, .int .i64 0, .slice none 0 0] ((n + 1) * 3)) 40)) := by
  obtain ⟨i, hi, hz, hs, hb⟩ := info_parts info40
  have hr := run_make (P := Try.prog) w 30 40 i _ Try.underlying30 hi hz .i64 .i64 ((n : Int) + 1) ((n : Int) + 1) (by omega) (Int.le_refl _) (by rw [hb]; omega) (by omega)
  rw [show ((n : Int) + 1).toNat = n + 1 from by omega, hs] at hr
  exact hr

/-- cell c of the sites' row when the first k sites have been laid -/
def siteCell (D : Nat → Bool) (S : Nat → Int) (k c : Nat) : Value :=
  if c % 3 = 2 then .slice none 0 0
  else if c % 3 = 0 then .bool (if 1 ≤ c / 3 ∧ c / 3 ≤ k then D (c / 3 - 1) else false)
  else .int .i64 (if 1 ≤ c / 3 ∧ c / 3 ≤ k then S (c / 3 - 1) else 0)

theorem sites_start (D : Nat → Bool) (S : Nat → Int) (n : Nat) (w : World) (o : Obj) :
    ((w.alloc (.cells (madeCells #[.bool false, .int .i64 0, .slice none 0 0] ((n + 1) * 3)) 40)).alloc o).rowIs w.heap.size 40 ((n + 1) * 3) (siteCell D S 0) := by
  refine World.rowIs.alloc ⟨_, Go.Deep.blk_alloc_new _ _, size_madeCells _ _, fun i hi => ?_⟩ o
  have h3 : i % 3 < 3 := Nat.mod_lt _ (by decide)
  have hz : ¬ (1 ≤ i / 3 ∧ i / 3 ≤ 0) := by omega
  simp only [madeCells, siteCell, if_neg hz]
  rw [Array.getElem?_map, Array.getElem?_range, if_pos hi]
  rcases (show i % 3 = 0 ∨ i % 3 = 1 ∨ i % 3 = 2 from by omega) with h | h | h <;> simp [h]

theorem sites_step {D : Nat → Bool} {S : Nat → Int} {n k b : Nat} {w wr : World} (hx : wr.rowIs b 40 ((n + 1) * 3) (siteCell D S k))
    (hsi : w.Since b wr) (hf : wr.cell? ⟨b + 1, 5, none⟩ = some (.slice (some ⟨b, 0, none⟩) (n + 1) (n + 1))) (hz : wr.heap.size = b + 2) :
    (((wr.setCell ⟨b, (k + 1) * 3, none⟩ (.bool (D k))).setCell ⟨b, (k + 1) * 3 + 1, none⟩ (.int .i64 (S k))).setCell ⟨b, (k + 1) * 3 + 2, none⟩ (.slice none 0 0)).drew.rowIs b 40 ((n + 1) * 3) (siteCell D S (k + 1)) ∧
    (((wr.setCell ⟨b, (k + 1) * 3, none⟩ (.bool (D k))).setCell ⟨b, (k + 1) * 3 + 1, none⟩ (.int .i64 (S k))).setCell ⟨b, (k + 1) * 3 + 2, none⟩ (.slice none 0 0)).drew.cell? ⟨b + 1, 5, none⟩ = some (.slice (some ⟨b, 0, none⟩) (n + 1) (n + 1)) ∧
    w.Since b (((wr.setCell ⟨b, (k + 1) * 3, none⟩ (.bool (D k))).setCell ⟨b, (k + 1) * 3 + 1, none⟩ (.int .i64 (S k))).setCell ⟨b, (k + 1) * 3 + 2, none⟩ (.slice none 0 0)).drew ∧
    (((wr.setCell ⟨b, (k + 1) * 3, none⟩ (.bool (D k))).setCell ⟨b, (k + 1) * 3 + 1, none⟩ (.int .i64 (S k))).setCell ⟨b, (k + 1) * 3 + 2, none⟩ (.slice none 0 0)).drew.heap.size = b + 2 := by
  refine ⟨World.rowIs.drew (((((hx.set _ _).set _ _).set _ _)).congr fun i hi => ?_), ?_, (((hsi.setCell (Nat.le_refl _) _).setCell (Nat.le_refl _) _).setCell (Nat.le_refl _) _).drew, ?_⟩
  · have h3 : i % 3 < 3 := Nat.mod_lt _ (by decide)
    by_cases e2 : i = (k + 1) * 3 + 2
    · rw [if_pos e2, siteCell, if_pos (by omega)]
    · rw [if_neg e2]
      by_cases e1 : i = (k + 1) * 3 + 1
      · rw [if_pos e1, siteCell, if_neg (by omega), if_neg (by omega), if_pos (by omega), show i / 3 - 1 = k from by omega]
      · rw [if_neg e1]
        by_cases e0 : i = (k + 1) * 3
        · rw [if_pos e0, siteCell, if_neg (by omega), if_pos (by omega), if_pos (by omega), show i / 3 - 1 = k from by omega]
        · rw [if_neg e0]
          have hne : i / 3 ≠ k + 1 := by omega
          have hiff : (1 ≤ i / 3 ∧ i / 3 ≤ k) ↔ (1 ≤ i / 3 ∧ i / 3 ≤ k + 1) := by omega
          simp only [siteCell, hiff]
  · have hs : ∀ (W : World) (o : Nat) (v : Value), (W.setCell ⟨b, o, none⟩ v).cell? ⟨b + 1, 5, none⟩ = W.cell? ⟨b + 1, 5, none⟩ := fun W o v =>
      World.cell?_of_block (Go.Deep.blk_setCell_other _ _ _ _ (by simp))
    exact ((hs _ _ _).trans ((hs _ _ _).trans (hs _ _ _))).trans hf
  · simpa using hz

set_option maxHeartbeats 400000 in
theorem new_any (b0 b1 n : Nat) (D : Nat → Bool) (S : Nat → Int) (w : World) (hn : n ≤ 65536)
    (h0 : w.rowIs b0 4 n (fun i => .bool (D i))) (h1 : w.rowIs b1 3 n (fun i => .int .i64 (S i))) :
    Calls Try.prog 5 #[.slice (some ⟨b0, 0, none⟩) n n, .slice (some ⟨b1, 0, none⟩) n n] w fun e w' => e = .returned (.pointer (some ⟨w.heap.size + 1, 0, none⟩)) ∧
      w'.rowIs w.heap.size 40 ((n + 1) * 3) (siteCell D S n) ∧ w'.cell? ⟨w.heap.size + 1, 5, none⟩ = some (.slice (some ⟨w.heap.size, 0, none⟩) (n + 1) (n + 1)) ∧
      w.Since w.heap.size w' ∧ w'.heap.size = w.heap.size + 2 := by
  have hmk := make_sites n hn
  go_enter Try.func5, Try.ntmps5
  go_wp2
  go_loopw [15] (fun i wr => ∃ k : Nat, k ≤ n ∧ i = .int .i64 k ∧ wr.rowIs w.heap.size 40 ((n + 1) * 3) (siteCell D S k) ∧
      wr.cell? ⟨w.heap.size + 1, 5, none⟩ = some (.slice (some ⟨w.heap.size, 0, none⟩) (n + 1) (n + 1)) ∧ w.Since w.heap.size wr ∧ wr.heap.size = w.heap.size + 2)
    (fun i _ => n - (intOf i).toNat)
  case atStart => exact ⟨0, Nat.zero_le _, rfl, sites_start D S n w _, by simp, ((World.Since.refl _ w).alloc (Nat.le_refl _) _).alloc (by simp) _, by simp⟩
  case round =>
    obtain ⟨k, hk, rfl, hx, hf, hsi, hz⟩ := hrel
    by_cases hlt : k < n
    · have c0 : wr.cell? ⟨b0, k, none⟩ = some (.bool (D k)) := (hsi.cell h0.lt).trans (h0.cell hlt)
      have c1 : wr.cell? ⟨b1, k, none⟩ = some (.int .i64 (S k)) := (hsi.cell h1.lt).trans (h1.cell hlt)
      have x0 : wr.cell? ⟨w.heap.size, (k + 1) * 3, none⟩ = some _ := hx.cell (by omega)
      have x1 : wr.cell? ⟨w.heap.size, (k + 1) * 3 + 1, none⟩ = some _ := hx.cell (by omega)
      have x2 : wr.cell? ⟨w.heap.size, (k + 1) * 3 + 2, none⟩ = some _ := hx.cell (by omega)
      have f0 : wr.frozen? ⟨w.heap.size, (k + 1) * 3, none⟩ = false := hx.frozen _
      have f1 : wr.frozen? ⟨w.heap.size, (k + 1) * 3 + 1, none⟩ = false := hx.frozen _
      have f2 : wr.frozen? ⟨w.heap.size, (k + 1) * 3 + 2, none⟩ = false := hx.frozen _
      go_wp2
      go_region
      have R := sites_step hx hsi hf hz
      clear hx hf hsi hz x0 x1 x2 f0 f1 f2 c0 c1
      go_wp2
      go_roundw
      case rel => exact ⟨k + 1, by omega, by go_num, R⟩
      case measure => simp [intOf]; omega
    · go_wp2
      go_ret
      obtain rfl : k = n := by omega
      exact ⟨rfl, hx, hf, hsi, hz⟩

set_option maxHeartbeats 400000 in
theorem new_zero (a0 a1 : Option Addr) (c0 c1 : Nat) (w : World) :
    Calls Try.prog 5 #[.slice a0 0 c0, .slice a1 0 c1] w fun e w' => e = .returned (.pointer (some ⟨w.heap.size + 1, 0, none⟩)) ∧ w.Since w.heap.size w' ∧ w'.heap.size = w.heap.size + 2 := by
  have hmk : ∀ w : World, (Instr.makeSlice 30 (.int .i64 1) (.int .i64 1)).run Try.prog w = .ok (.slice (some ⟨w.heap.size, 0, none⟩) 1 1) (w.alloc (.cells (madeCells #[.bool false, .int .i64 0, .slice none 0 0] 3) 40)) := make_sites 0 (by omega)
  go_enter Try.func5, Try.ntmps5
  go_wp2
  refine wp_loop_rounds 1 ?_
  rw [rounds_succ]
  go_wp2
  go_ret
  exact ⟨rfl, ((World.Since.refl _ w).alloc (Nat.le_refl _) _).alloc (by simp) _, by simp⟩
end Go.Proofs.Qxb6613252a

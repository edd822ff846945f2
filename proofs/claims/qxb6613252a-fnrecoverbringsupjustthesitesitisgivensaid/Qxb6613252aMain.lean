/-
  The law itself (3): at least one site, lengths within the bounds (seat b6613252a).
-/
import Derived.Test.Qxb6613252aLaws
import Derived.Deep.LoopGhost
import Derived.Laws.Cover3
import Derived.BigQuiet
import Derived.Deep.QuietTactic
namespace Go.Proofs.Qxb6613252a
open Go.ChangeShapes Go.WideShapes Go.RowKit

set_option maxRecDepth 100000 in
set_option maxHeartbeats 2000000 in
theorem main_pos (ad0 ad1 : Addr) (a2 : Option Addr) (n m c0 c1 c2 : Nat) (D : Nat → Bool) (S T : Nat → Int) (w : World)
    (hpos : 0 < n) (hn : n ≤ 65536) (hm : m ≤ 65536) (hsum : n + 8 * n + 8 * m ≤ 1048576)
    (h0 : ∀ j, j < n → w.cell? (ad0.add j) = some (.bool (D j))) (h1 : ∀ j, j < n → w.cell? (ad1.add j) = some (.int .i64 (S j)))
    (b0 : ad0.block < w.heap.size) (b1 : ad1.block < w.heap.size)
    (h2 : ∀ j, j < m → ∃ ad2, a2 = some ad2 ∧ ad2.block < w.heap.size ∧ w.cell? (ad2.add j) = some (.int .i64 (T j))) :
    Calls Try.prog 3 #[.slice (some ad0) n c0, .slice (some ad1) n c1, .slice a2 m c2] w fun e w' => e = .returned (.bool true) ∧ w.Since w.heap.size w' := by
  have mk0 := run_make_row' (P := Try.prog) 22 4 (.bool false) 1 Try.underlying22 info4 rfl .i64 .i64 n (by omega) (by omega)
  have mk1 := run_make_row' (P := Try.prog) 23 3 (.int .i64 0) 8 Try.underlying23 info3 rfl .i64 .i64 n (by omega) (by omega)
  have mk2 : ∀ w : World, (Instr.makeSlice 22 (.int .i64 ((n : Int) + 1)) (.int .i64 ((n : Int) + 1))).run Try.prog w = .ok (.slice (some ⟨w.heap.size, 0, none⟩) (n + 1) (n + 1)) (w.alloc (.cells (madeCells #[.bool false] (n + 1)) 4)) :=
    run_make_row' (P := Try.prog) 22 4 (.bool false) 1 Try.underlying22 info4 rfl .i64 .i64 (n + 1) (by omega) (by omega)
  have cp0 := run_copy_made (P := Try.prog) w 22 3 4 (.bool false) n c0 ad0 (fun j => .bool (D j)) w.heap.size rfl Try.underlying22 size4 b0 h0 (fun _ => rfl)
  obtain ⟨DA, hDA⟩ : ∃ DA, DA = ((List.range n).map (fun j => Value.bool (D j))).toArray := ⟨_, rfl⟩
  rw [← hDA] at cp0
  have cp1 := run_copy_made (P := Try.prog) (w.alloc (.cells DA 4)) 23 3 3 (.int .i64 0) n c1 ad1 (fun j => .int .i64 (S j)) (w.heap.size + 1) (by simp) Try.underlying23 size3 (by omega)
    (fun j hj => (World.cell?_alloc_lt _ _ _ (add_block_lt b1 j)).trans (h1 j hj)) (fun _ => rfl)
  obtain ⟨SA, hSA⟩ : ∃ SA, SA = ((List.range n).map (fun j => Value.int .i64 (S j))).toArray := ⟨_, rfl⟩
  rw [← hSA] at cp1
  have HDA : Hid _ := hDA
  have HSA : Hid _ := hSA
  clear hDA hSA
  go_enter Try.func3, Try.ntmps3
  go_wp2_with (first
    | (go_at_call 4; refine (bytes_any _ _ _ _ _ _ _ _ _ _).mono ?_; intro e w' h; obtain ⟨⟨b, rfl⟩, h2⟩ := h; subst w'))
  · go_ret
    exact ⟨rfl, World.Since.refl _ _⟩
  clear mk0 mk1 mk2 cp0 cp1 h0 h1
  go_loopw [76] (fun i wr => ∃ k : Nat, k ≤ m ∧ i = .int .i64 k ∧ Mid w wr n k D S T) (fun i _ => m - (intOf i).toNat)
  case atStart => exact ⟨0, Nat.zero_le _, rfl, by rw [HDA.out, HSA.out]; exact mid_start w n D S T⟩
  case round =>
    obtain ⟨k, hk, rfl, hmid⟩ := hrel
    by_cases hlt : k < m
    · obtain ⟨ad2, rfl, hb2, hc2⟩ := h2 k hlt
      have hc := (hmid.si.cell (add_block_lt hb2 k)).trans hc2
      clear hc2
      by_cases g1 : T k < 1
      · go_wp2
        go_ret
        exact ⟨rfl, hmid.si⟩
      by_cases g2 : (n : Int) < T k
      · go_wp2
        go_ret
        exact ⟨rfl, hmid.si⟩
      obtain ⟨s, hs⟩ : ∃ s : Nat, T k = (s : Int) + 1 := ⟨(T k - 1).toNat, by omega⟩
      have hsn : s < n := by omega
      have R := mid_step hmid hs hsn
      rw [hs] at hc
      clear g1 g2 hs
      have e2 := hmid.r2.cell (i := s + 1) (by omega)
      have e0 := hmid.r0.cell (i := s) hsn
      have f2 := hmid.r2.frozen (s + 1)
      have ssi := hmid.si
      clear hmid
      cases hgb : givenB T k (s + 1)
      · rw [hgb] at e2
        clear hgb
        cases hds : D s
        · rw [hds] at e0
          clear hds
          go_wp2
          go_ret
          exact ⟨rfl, ssi⟩
        · rw [hds] at e0
          clear hds
          go_wp2
          go_roundw
          case rel => exact ⟨k + 1, by omega, by go_num, R⟩
          case measure => simp [intOf]; omega
      · rw [hgb] at e2
        clear hgb
        go_wp2
        go_ret
        exact ⟨rfl, ssi⟩
    · obtain rfl : k = m := by omega
      have hnew := new_any w.heap.size (w.heap.size + 1) n D S wr hn hmid.r0 hmid.r1
      rw [hmid.sz] at hnew
      have HN : Hid _ := hnew
      clear hnew
      go_wp2_with fail
      refine Calls.mono HN.out ?_
      rintro e w1 ⟨rfl, hx, hf, hs, _⟩
      have hl := late_start hmid hx hf hs
      have hok := hmid.ok
      clear HN hmid hx hf hs HDA HSA hpos hlt hk
      go_wp2_with fail
      go_loopw [110] (fun i wr => ∃ j : Nat, j ≤ k ∧ i = .int .i64 j ∧ Late w wr n k j D S T) (fun i _ => k - (intOf i).toNat)
      case atStart => exact ⟨0, Nat.zero_le _, rfl, hl⟩
      case round =>
        clear hl
        obtain ⟨j, hj, rfl, hlate⟩ := hrel
        by_cases hlt : j < k
        · obtain ⟨ad2, rfl, hb2, hc2⟩ := h2 j hlt
          have hc := (hlate.si.cell (add_block_lt hb2 j)).trans hc2
          obtain ⟨s, hs⟩ : ∃ s : Nat, T j = (s : Int) := ⟨(T j).toNat, by have := hok j hlt; omega⟩
          have hsn : s ≤ n := by have := hok j hlt; omega
          have R := late_step hlate hs
          rw [hs] at hc
          have hff := hlate.f
          have hcs := hlate.x.cell (i := s * 3) (by omega)
          have hfz := hlate.x.frozen (s * 3)
          clear hs hc2 hlate hok h2
          go_wp2_with fail
          refine (zzrecover_any (w.heap.size + 3 + 1) (w.heap.size + 3) n s _ wr hsn hff hcs hfz).mono ?_
          rintro e w1 ⟨rfl, h1⟩
          subst w1
          clear hcs hfz hff hc
          go_wp2
          go_roundw
          case rel => exact ⟨j + 1, by omega, by go_num, R⟩
          case measure => simp [intOf]; omega
        · obtain rfl : j = k := by omega
          clear hok h2
          go_wp2_with fail
          go_loopw [16] (fun i wr => ∃ q : Nat, q ≤ n ∧ i = .int .i64 ((q : Int) + 1) ∧ Late w wr n j j D S T) (fun i _ => n + 1 - (intOf i).toNat)
          case atStart => exact ⟨0, Nat.zero_le _, rfl, hlate⟩
          case round =>
            clear hlate
            obtain ⟨q, hq, rfl, hlate⟩ := hrel
            by_cases hqn : q < n
            · have e0 := hlate.r0.cell (i := q) hqn
              have e1 := hlate.r1.cell (i := q) hqn
              have e2 := hlate.r2.cell (i := q + 1) (by omega)
              have d0 := late_down hlate hqn
              have d1 := late_since hlate hqn
              have ff := hlate.f
              have i0 : (0 : Int) ≤ (q : Int) := by omega
              have i1 : (q : Int) < (n : Int) := by omega
              have i2 : (q : Int) + 1 < (n : Int) + 1 := by omega
              cases hD : D q
              · rw [hD] at e0 d0
                rw [Bool.false_and] at d0
                clear hD
                go_wp2
                go_quiet ((go_at_call 7; exact Calls.quiet_of_same (down_any (w.heap.size + 3 + 1) (w.heap.size + 3) n q _ _ hqn (by exact ff) (by exact d0))))
                have hl5 := late_drewN hlate nq
                generalize wr.drewN nq = w5 at hl5 ⊢
                clear e0 e1 e2 d0 d1 ff hlate
                have e1 := hl5.r1.cell (i := q) hqn
                have d1 := late_since hl5 hqn
                have ff := hl5.f
                go_wp2
                go_quiet ((go_at_call 8; exact Calls.quiet_of_same (since_any (w.heap.size + 3 + 1) (w.heap.size + 3) n q _ _ hqn (by exact ff) (by exact d1))))
                have hl6 := late_drewN hl5 nq
                generalize w5.drewN nq = w6 at hl6 ⊢
                clear e1 d1 ff hl5
                go_wp2
                go_roundw
                case rel => exact ⟨q + 1, by omega, by go_num, hl6⟩
                case measure => simp [intOf]; omega
              · rw [hD, Bool.true_and] at d0
                rw [hD] at e0
                clear hD
                cases hG : givenB T j (q + 1)
                · rw [hG, Bool.not_false] at d0
                  rw [hG] at e2
                  clear hG
                  go_wp2
                  go_quiet ((go_at_call 7; exact Calls.quiet_of_same (down_any (w.heap.size + 3 + 1) (w.heap.size + 3) n q _ _ hqn (by exact ff) (by exact d0))))
                  have hl5 := late_drewN hlate nq
                  generalize wr.drewN nq = w5 at hl5 ⊢
                  clear e0 e1 e2 d0 d1 ff hlate
                  have e1 := hl5.r1.cell (i := q) hqn
                  have d1 := late_since hl5 hqn
                  have ff := hl5.f
                  go_wp2
                  go_quiet ((go_at_call 8; exact Calls.quiet_of_same (since_any (w.heap.size + 3 + 1) (w.heap.size + 3) n q _ _ hqn (by exact ff) (by exact d1))))
                  have hl6 := late_drewN hl5 nq
                  generalize w5.drewN nq = w6 at hl6 ⊢
                  clear e1 d1 ff hl5
                  go_wp2
                  go_roundw
                  case rel => exact ⟨q + 1, by omega, by go_num, hl6⟩
                  case measure => simp [intOf]; omega
                · rw [hG, Bool.not_true] at d0
                  rw [hG] at e2
                  clear hG
                  go_wp2
                  go_quiet ((go_at_call 7; exact Calls.quiet_of_same (down_any (w.heap.size + 3 + 1) (w.heap.size + 3) n q _ _ hqn (by exact ff) (by exact d0))))
                  have hl5 := late_drewN hlate nq
                  generalize wr.drewN nq = w5 at hl5 ⊢
                  clear e0 e1 e2 d0 d1 ff hlate
                  have e1 := hl5.r1.cell (i := q) hqn
                  have d1 := late_since hl5 hqn
                  have ff := hl5.f
                  go_wp2
                  go_quiet ((go_at_call 8; exact Calls.quiet_of_same (since_any (w.heap.size + 3 + 1) (w.heap.size + 3) n q _ _ hqn (by exact ff) (by exact d1))))
                  have hl6 := late_drewN hl5 nq
                  generalize w5.drewN nq = w6 at hl6 ⊢
                  clear e1 d1 ff hl5
                  go_wp2
                  go_roundw
                  case rel => exact ⟨q + 1, by omega, by go_num, hl6⟩
                  case measure => simp [intOf]; omega
            · obtain rfl : q = n := by omega
              go_wp2
              go_ret
              exact ⟨rfl, hlate.si⟩
end Go.Proofs.Qxb6613252a

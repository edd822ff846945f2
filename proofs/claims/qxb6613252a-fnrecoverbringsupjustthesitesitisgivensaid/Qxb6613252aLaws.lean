/-
  Small laws for the main walk (seat b6613252a): 'copy' over a whole row of the call's own; plain functions.
-/
import Derived.Test.Qxb6613252aNew
import Derived.Laws.CopyOwn
import Derived.Deep.Draws
namespace Go.Proofs.Qxb6613252a
open Go.ChangeShapes Go.WideShapes Go.RowKit

theorem add_block (a : Addr) (j : Nat) : (a.add j).block = a.block := by unfold Addr.add; split <;> rfl
theorem add_block_lt {a : Addr} {B : Nat} (h : a.block < B) (j : Nat) : (a.add j).block < B := by rw [add_block]; exact h

theorem setRow_alloc (w : World) (c c' : Array Value) (t : TypeId) : (w.alloc (.cells c t)).setRow w.heap.size c' = w.alloc (.cells c' t) := by
  show ({ w with heap := (w.heap.push (.cells c t)).modify w.heap.size _ } : World) = { w with heap := w.heap.push (.cells c' t) }
  congr 1
  apply Array.ext
  · simp
  · intro i h1 h2
    by_cases hi : i = w.heap.size
    · subst hi
      simp [Array.getElem_modify]
    · rw [Array.getElem_modify, if_neg (fun h => hi h.symm)]
      have hlt : i < w.heap.size := by simp at h1; omega
      simp [Array.getElem_push, hlt]

/-- 'zz := make([]T, n); copy(zz, xs)', len(xs) = n: the new row holds xs. -/
theorem run_copy_made {P : Program} (w : World) (dT ty e : TypeId) (z : Value) (n cap : Nat) (ad : Addr) (V : Nat → Value) (B : Nat) (hB : B = w.heap.size)
    (hu : P.underlying dT = some (.slice e)) (hs : (P.info? e).map (·.size) = some 1) (hb : ad.block < B)
    (hsrc : ∀ j, j < n → w.cell? (ad.add j) = some (V j)) (h1 : ∀ j, (V j).oneCell' = true) :
    (Builtin.copy_ #[dT, dT] ty #[.slice (some ⟨B, 0, none⟩) n n, .slice (some ad) n cap]).run P (w.alloc (.cells (madeCells #[z] n) e)) =
      .ok (goInt n) (w.alloc (.cells ((List.range n).map V).toArray e)) := by
  subst hB
  have hl : ((List.range n).map V).length = n := by simp
  have hr := run_copy_row (P := P) (w.alloc (.cells (madeCells #[z] n) e)) dT dT ty e w.heap.size 0 n n ad n cap (madeCells #[z] n) e ((List.range n).map V) hu hs (heap_alloc_new w _) (by simp)
    (by
      intro j v hj
      rw [List.getElem?_map] at hj
      by_cases hjn : j < n
      · rw [List.getElem?_range hjn] at hj
        simp at hj
        rw [← hj]
        exact (World.cell?_alloc_lt _ _ _ (add_block_lt hb j)).trans (hsrc j hjn)
      · rw [List.getElem?_eq_none (by simpa using hjn)] at hj
        simp at hj)
    (by simp [size_madeCells]) (by
      intro v hv
      obtain ⟨j, _, rfl⟩ := List.mem_map.1 hv
      exact h1 j)
  have e1 : ((madeCells #[z] n).toList.take 0 ++ (List.range n).map V ++ (madeCells #[z] n).toList.drop (0 + ((List.range n).map V).length)).toArray = ((List.range n).map V).toArray := by
    rw [hl, Nat.zero_add, List.drop_of_length_le (by simp [size_madeCells])]
    simp
  rw [hr, e1, hl, setRow_alloc]
/-- among the first k of the script: site i -/
def givenB (T : Nat → Int) (k i : Nat) : Bool := (List.range k).any fun j => T j == (i : Int)

theorem givenB_succ (T : Nat → Int) (k i : Nat) : givenB T (k + 1) i = (givenB T k i || T k == (i : Int)) := by
  simp [givenB, List.range_succ]

/-- the state of the first loop: what the call has made, k of the script read -/
structure Mid (w wr : World) (n k : Nat) (D : Nat → Bool) (S T : Nat → Int) : Prop where
  r0 : wr.rowIs w.heap.size 4 n (fun i => .bool (D i))
  r1 : wr.rowIs (w.heap.size + 1) 3 n (fun i => .int .i64 (S i))
  r2 : wr.rowIs (w.heap.size + 1 + 1) 4 (n + 1) (fun i => .bool (givenB T k i))
  si : w.Since w.heap.size wr
  sz : wr.heap.size = w.heap.size + 3
  ok : ∀ j, j < k → 1 ≤ T j ∧ T j ≤ n

theorem laid_row (w : World) (n : Nat) (t : TypeId) (V : Nat → Value) (b : Nat) (hb : b = w.heap.size) : (w.alloc (.cells ((List.range n).map V).toArray t)).rowIs b t n V := by
  subst hb
  exact ⟨_, Go.Deep.blk_alloc_new _ _, by simp, fun i hi => by simp [hi]⟩

theorem mid_start (w : World) (n : Nat) (D : Nat → Bool) (S T : Nat → Int) :
    Mid w (((w.alloc (.cells ((List.range n).map (fun j => Value.bool (D j))).toArray 4)).alloc (.cells ((List.range n).map (fun j => Value.int .i64 (S j))).toArray 3)).alloc (.cells (madeCells #[.bool false] (n + 1)) 4)) n 0 D S T := by
  refine ⟨((laid_row w n 4 (fun j => Value.bool (D j)) _ rfl).alloc _).alloc _, (laid_row _ n 3 (fun j => Value.int .i64 (S j)) _ (by simp)).alloc _, ?_, (((World.Since.refl _ w).alloc (Nat.le_refl _) _).alloc (by simp) _).alloc (by simp; omega) _, by simp, fun j hj => by omega⟩
  · have := World.rowIs_made ((w.alloc (.cells ((List.range n).map (fun j => Value.bool (D j))).toArray 4)).alloc (.cells ((List.range n).map (fun j => Value.int .i64 (S j))).toArray 3)) (.bool false) (n + 1) 4
    have e : ((w.alloc (.cells ((List.range n).map (fun j => Value.bool (D j))).toArray 4)).alloc (.cells ((List.range n).map (fun j => Value.int .i64 (S j))).toArray 3)).heap.size = w.heap.size + 1 + 1 := by simp
    rw [e] at this
    exact this.congr fun i _ => by simp [givenB]

theorem mid_step {w wr : World} {n k s : Nat} {D : Nat → Bool} {S T : Nat → Int} (h : Mid w wr n k D S T) (hT : T k = (s : Int) + 1) (hs : s < n) :
    Mid w (wr.setCell ⟨w.heap.size + 1 + 1, s + 1, none⟩ (.bool true)) n (k + 1) D S T := by
  refine ⟨h.r0.setOther (by simp; omega) _, h.r1.setOther (by simp) _, (h.r2.set _ _).congr fun i _ => ?_, h.si.setCell (by simp; omega) _, by simpa using h.sz, fun j hj => ?_⟩
  · rw [givenB_succ, hT]
    by_cases e : i = s + 1
    · subst e; simp
    · rw [if_neg e]
      have : ((s : Int) + 1 == (i : Int)) = false := by rw [beq_eq_false_iff_ne]; omega
      rw [this, Bool.or_false]
  · by_cases e : j = k
    · subst e; omega
    · exact h.ok j (by omega)

/-- cell c of the sites' row when the first k of the script have been recovered -/
def siteAfter (D : Nat → Bool) (S T : Nat → Int) (n k c : Nat) : Value :=
  if c % 3 = 0 then .bool ((if 1 ≤ c / 3 ∧ c / 3 ≤ n then D (c / 3 - 1) else false) && !givenB T k (c / 3)) else siteCell D S n c

/-- the state behind ZZnewStoreSites: k of the m of the script recovered -/
structure Late (w wr : World) (n m k : Nat) (D : Nat → Bool) (S T : Nat → Int) : Prop where
  r0 : wr.rowIs w.heap.size 4 n (fun i => .bool (D i))
  r1 : wr.rowIs (w.heap.size + 1) 3 n (fun i => .int .i64 (S i))
  r2 : wr.rowIs (w.heap.size + 1 + 1) 4 (n + 1) (fun i => .bool (givenB T m i))
  x : wr.rowIs (w.heap.size + 3) 40 ((n + 1) * 3) (siteAfter D S T n k)
  f : wr.cell? ⟨w.heap.size + 3 + 1, 5, none⟩ = some (.slice (some ⟨w.heap.size + 3, 0, none⟩) (n + 1) (n + 1))
  si : w.Since w.heap.size wr

theorem late_start {w wr w1 : World} {n m : Nat} {D : Nat → Bool} {S T : Nat → Int} (h : Mid w wr n m D S T)
    (hx : w1.rowIs (w.heap.size + 3) 40 ((n + 1) * 3) (siteCell D S n)) (hf : w1.cell? ⟨w.heap.size + 3 + 1, 5, none⟩ = some (.slice (some ⟨w.heap.size + 3, 0, none⟩) (n + 1) (n + 1)))
    (hs : wr.Since (w.heap.size + 3) w1) : Late w w1 n m 0 D S T := by
  refine ⟨h.r0.of_block (hs.block _ (by omega)), h.r1.of_block (hs.block _ (by omega)), h.r2.of_block (hs.block _ (by omega)), hx.congr fun c _ => ?_, hf, h.si.trans ⟨hs.os, hs.tape, hs.output, hs.size, fun k hk => hs.block k (by omega)⟩⟩
  unfold siteAfter
  by_cases e : c % 3 = 0
  · rw [if_pos e]
    simp [siteCell, e, givenB]
  · rw [if_neg e]

theorem late_step {w wr : World} {n m k s : Nat} {D : Nat → Bool} {S T : Nat → Int} (h : Late w wr n m k D S T) (hT : T k = (s : Int)) :
    Late w (wr.setCell ⟨w.heap.size + 3, s * 3, none⟩ (.bool false)) n m (k + 1) D S T := by
  refine ⟨h.r0.setOther (by simp) _, h.r1.setOther (by simp) _, h.r2.setOther (by simp) _, (h.x.set _ _).congr fun c _ => ?_, ?_, h.si.setCell (by simp) _⟩
  · by_cases e : c = s * 3
    · rw [if_pos e, siteAfter, if_pos (by omega), givenB_succ, hT, show c / 3 = s from by omega]
      simp
    · rw [if_neg e]
      unfold siteAfter
      by_cases e3 : c % 3 = 0
      · have : ((s : Int) == ((c / 3 : Nat) : Int)) = false := by rw [beq_eq_false_iff_ne]; omega
        rw [if_pos e3, if_pos e3, givenB_succ, hT, this, Bool.or_false]
      · rw [if_neg e3, if_neg e3]
  · exact (World.cell?_of_block (Go.Deep.blk_setCell_other _ _ _ _ (by simp))).trans h.f

theorem late_drewN {w wr : World} {n m k : Nat} {D : Nat → Bool} {S T : Nat → Int} (h : Late w wr n m k D S T) (q : Nat) : Late w (wr.drewN q) n m k D S T := by
  have e : (wr.drewN q).Alike wr := World.drewN_alike wr q
  exact ⟨h.r0.of_block (by rw [e.1]), h.r1.of_block (by rw [e.1]), h.r2.of_block (by rw [e.1]), h.x.of_block (by rw [e.1]), (e.cell _).trans h.f, h.si.trans ⟨rfl, rfl, rfl, Nat.le_refl _, fun _ _ => rfl⟩⟩

theorem late_down {w wr : World} {n m k j : Nat} {D : Nat → Bool} {S T : Nat → Int} (h : Late w wr n m k D S T) (hj : j < n) :
    wr.cell? ⟨w.heap.size + 3, (j + 1) * 3, none⟩ = some (.bool (D j && !givenB T k (j + 1))) := by
  rw [h.x.cell (by omega), siteAfter, if_pos (by omega), if_pos (by omega), show (j + 1) * 3 / 3 = j + 1 from by omega]
  rfl

theorem late_since {w wr : World} {n m k j : Nat} {D : Nat → Bool} {S T : Nat → Int} (h : Late w wr n m k D S T) (hj : j < n) :
    wr.cell? ⟨w.heap.size + 3, (j + 1) * 3 + 1, none⟩ = some (.int .i64 (S j)) := by
  rw [h.x.cell (by omega), siteAfter, if_neg (by omega), siteCell, if_neg (by omega), if_neg (by omega), if_pos (by omega), show ((j + 1) * 3 + 1) / 3 = j + 1 from by omega]
  rfl

theorem size4 : (Try.prog.info? 4).map (·.size) = some 1 := by kernel_rfl
theorem size3 : (Try.prog.info? 3).map (·.size) = some 1 := by kernel_rfl
end Go.Proofs.Qxb6613252a

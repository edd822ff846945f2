/-
  Rows.FnRecoverBringsUpJustTheSitesItIsGivenSaid (seat b6613252a): the walks put together, and the row's step (after the guide's shell for slices of integers, its first argument a slice of bools).
-/
import Derived.Test.Qxb6613252aRows
import Derived.Test.Qxb6613252aMain
import Derived.Test.Qxb6613252aEdge
import Derived.WalkKit
import Derived.ProofKit
import Derived.OpenShut
import Derived.ShutString
import Derived.ChangeOld
import Derived.Below
import Derived.Deep.Grids
namespace Go.Proofs.Qxb6613252a.fnRecoverBringsUpJustTheSitesItIsGiven
open Go.ChangeShapes Go.WideShapes Go.ChangeAt Go.RowKit
open Go.ChangeMaps (open_string shut_string)

theorem own : ownKnob Try.prog.godebug = none := by kernel_rfl
theorem laidOut : laidOutB Try.prog = true := by kernel_rfl

/-- a slice that came in: its elements lie in old memory -/
def IsRow (w : World) (a : Option Addr) (len : Nat) (V : Nat → Value) : Prop :=
  len ≤ 9223372036854775807 ∧ ∀ j, j < len → ∃ x, a = some x ∧ x.block < w.heap.size ∧ w.cell? (x.add j) = some (V j)

theorem cell_lt {w : World} {x : Addr} {v : Value} (h : w.cell? x = some v) : x.block < w.heap.size := by
  by_cases hb : x.block < w.heap.size
  · exact hb
  · have : w.heap[x.block]? = none := Array.getElem?_eq_none (by omega)
    simp [World.cell?, this] at h

theorem isRow_nil (w : World) (V : Nat → Value) : IsRow w none 0 V := ⟨by omega, fun j hj => by omega⟩
theorem isRow_some {w : World} {x : Addr} {len : Nat} {V : Nat → Value} (hl : len ≤ 9223372036854775807) (h : ∀ j, j < len → w.cell? (x.add j) = some (V j)) : IsRow w (some x) len V :=
  ⟨hl, fun j hj => ⟨x, rfl, by have := cell_lt (h j hj); rwa [add_block] at this, h j hj⟩⟩

/-! ### STEP 1: THE WALK -/
theorem walk (a0 a1 a2 : Option Addr) (n0 n1 n2 c0 c1 c2 : Nat) (D : Nat → Bool) (S T : Nat → Int) (w : World)
    (w0 : IsRow w a0 n0 (fun j => .bool (D j))) (w1 : IsRow w a1 n1 (fun j => .int .i64 (S j))) (w2 : IsRow w a2 n2 (fun j => .int .i64 (T j))) :
    Calls Try.prog 3 #[.slice a0 n0 c0, .slice a1 n1 c1, .slice a2 n2 c2] w fun e w' => e = .returned (.bool true) ∧ Below w.heap.size w w' := by
  have key : Calls Try.prog 3 #[.slice a0 n0 c0, .slice a1 n1 c1, .slice a2 n2 c2] w fun e w' => e = .returned (.bool true) ∧ w.Since w.heap.size w' := by
    by_cases hb : n0 ≤ 65536 ∧ n1 ≤ 65536 ∧ n2 ≤ 65536 ∧ n0 + 8 * n1 + 8 * n2 ≤ 1048576 ∧ n1 = n0
    · obtain ⟨b0, b1, b2, b3, rfl⟩ := hb
      by_cases hz : n1 = 0
      · subst hz
        exact main_zero a0 a1 a2 n2 c0 c1 c2 T w b2 w2.2
      · obtain ⟨x0, rfl, l0, _⟩ := w0.2 0 (by omega)
        obtain ⟨x1, rfl, l1, _⟩ := w1.2 0 (by omega)
        refine main_pos x0 x1 a2 n1 n2 c0 c1 c2 D S T w (by omega) b1 b2 b3 ?_ ?_ l0 l1 w2.2
        · intro j hj
          obtain ⟨y, hy, _, hc⟩ := w0.2 j hj
          obtain rfl : x0 = y := by simpa using hy
          exact hc
        · intro j hj
          obtain ⟨y, hy, _, hc⟩ := w1.2 j hj
          obtain rfl : x1 = y := by simpa using hy
          exact hc
    · exact main_big a0 a1 a2 n0 n1 n2 c0 c1 c2 w w0.1 w1.1 w2.1 (by omega)
  refine key.mono fun e w' h => ⟨h.1, ?_⟩
  exact ⟨h.2.os, h.2.tape, h.2.output, h.2.size, h.2.block⟩

/-! ### THE ROW's STEP -/
set_option maxRecDepth 100000 in
theorem lifted (os : Os) (started : os.Started) (H : Type) (enc : TypeId × Value → H) :
    ReturnsInHanded {} Try.checked os 3 .any (Rows.fnRecoverBringsUpJustTheSitesItIsGivenSpec.pre6 enc Try.prog Try.f3 Rows.fnRecoverBringsUpJustTheSitesItIsGivenRow.domain false) (Rows.fnRecoverBringsUpJustTheSitesItIsGivenSpec.post enc Try.prog Try.f3 false true false false) := by
  refine returnsInHanded_of_change (C := Try.checked) own started (by kernel_rfl) Try.func3
    (ChangeSpec.witness6 (enc := enc) (C := Try.checked) false ⟨#[], #[.slice none 0 0, .slice none 0 0, .slice none 0 0], []⟩ 8 (by kernel_rfl) (by kernel_rfl) (by kernel_rfl) (by kernel_rfl)) ?_
  intro W base args ds gs before hval0 hW hcnd _
  have hval : ∀ (j : Nat) t v, Try.f3.params[j]? = some t → args[j]? = some v → Value.okWide Try.prog W .any base t v := hval0
  have hW' := hW
  obtain ⟨p, q, hA0, hV, rfl, hfz, hnd⟩ := hW
  have hA : DataW.TrodAll enc Try.prog W 0 (fun _ => true) true Try.f3.params.toList args.toList ds p := hA0
  rw [Try.params3] at hA hval
  obtain ⟨v0, vs0, d0, ds0, p0, q0, hargs, rfl, rfl, h0, r0⟩ := trodAll_cons hA
  obtain ⟨v1, vs1, d1, ds1, p1, q1, rfl, rfl, rfl, h1, r1⟩ := trodAll_cons r0
  obtain ⟨v2, vs2, d2, ds2, p2, q2, rfl, rfl, rfl, h2, r2⟩ := trodAll_cons r1
  obtain ⟨rfl, rfl, rfl⟩ := trodAll_nil r2
  obtain rfl : args = #[v0, v1, v2] := by cases args; simp_all
  obtain ⟨rfl, rfl⟩ := trodVars_none hV
  obtain ⟨a0, len0, cap0, rfl⟩ := okWide_slice Try.underlying22 (hval 0 22 v0 rfl rfl)
  have k0 := h0
  have lt0 : ∀ x ∈ p0, x.block < W.heap.size := by obtain ⟨m, hm⟩ := k0; exact DataW.trod_lt m _ _ _ hm
  obtain ⟨D, w0⟩ : ∃ D : Nat → Bool, IsRow W a0 len0 (fun j => .bool (D j)) := by
    obtain ⟨fuel, hf⟩ := h0
    rcases Go.Deep.open_bools Try.underlying22 Try.underlying4 (by kernel_rfl) hf with ⟨hcs, _⟩ | ⟨x, l, c, B, hcs, _, hl, hm, _, hcell⟩
    · simp [Value.cells] at hcs
      obtain ⟨rfl, rfl, rfl⟩ := hcs
      exact ⟨fun _ => false, isRow_nil _ _⟩
    · simp [Value.cells] at hcs
      obtain ⟨rfl, rfl, rfl⟩ := hcs
      unfold maxLen at hm
      exact ⟨B, isRow_some (by omega) fun j hj => hcell j (by omega)⟩
  obtain ⟨a1, len1, cap1, rfl⟩ := okWide_slice Try.underlying23 (hval 1 23 v1 rfl rfl)
  have k1 := h1
  have lt1 : ∀ x ∈ p1, x.block < W.heap.size := by obtain ⟨m, hm⟩ := k1; exact DataW.trod_lt m _ _ _ hm
  obtain ⟨S1, w1⟩ : ∃ S : Nat → Int, IsRow W a1 len1 (fun j => .int .i64 (S j)) := by
    obtain ⟨fuel, hf⟩ := h1
    rcases open_ints Try.underlying23 Try.underlying3 (by kernel_rfl) hf with ⟨hcs, _⟩ | ⟨x, l, c, zs, hcs, _, hl, hm, hz, _, hcell, hwz⟩
    · simp [Value.cells] at hcs
      obtain ⟨rfl, rfl, rfl⟩ := hcs
      exact ⟨fun _ => 0, isRow_nil _ _⟩
    · simp [Value.cells] at hcs
      obtain ⟨rfl, rfl, rfl⟩ := hcs
      have hz' : zs.length = cap1 := by simpa using hz
      unfold maxLen at hm
      exact ⟨fun j => zs.getD j 0, isRow_some (by omega) fun j hj => hcell j (by omega)⟩
  obtain ⟨a2, len2, cap2, rfl⟩ := okWide_slice Try.underlying23 (hval 2 23 v2 rfl rfl)
  have k2 := h2
  have lt2 : ∀ x ∈ p2, x.block < W.heap.size := by obtain ⟨m, hm⟩ := k2; exact DataW.trod_lt m _ _ _ hm
  obtain ⟨S2, w2⟩ : ∃ S : Nat → Int, IsRow W a2 len2 (fun j => .int .i64 (S j)) := by
    obtain ⟨fuel, hf⟩ := h2
    rcases open_ints Try.underlying23 Try.underlying3 (by kernel_rfl) hf with ⟨hcs, _⟩ | ⟨x, l, c, zs, hcs, _, hl, hm, hz, _, hcell, hwz⟩
    · simp [Value.cells] at hcs
      obtain ⟨rfl, rfl, rfl⟩ := hcs
      exact ⟨fun _ => 0, isRow_nil _ _⟩
    · simp [Value.cells] at hcs
      obtain ⟨rfl, rfl, rfl⟩ := hcs
      have hz' : zs.length = cap2 := by simpa using hz
      unfold maxLen at hm
      exact ⟨fun j => zs.getD j 0, isRow_some (by omega) fun j hj => hcell j (by omega)⟩
  clear hA0 hval0
  refine (walk a0 a1 a2 len0 len1 len2 cap0 cap1 cap2 D S1 S2 W w0 w1 w2).mono fun e W' ⟨he, bel⟩ => ?_
  subst he
  exact ⟨_, rfl, _, _, _, [], _, [], hW', trodAll_mk1 (shut_bool Try.underlying4 _), (trodAll_cons_mk (Below.trod laidOut (by kernel_rfl) (of_decide_eq_true (by kernel_rfl)) k0 bel lt0) (trodAll_cons_mk (Below.trod laidOut (by kernel_rfl) (of_decide_eq_true (by kernel_rfl)) k1 bel lt1) (trodAll_cons_mk (Below.trod laidOut (by kernel_rfl) (of_decide_eq_true (by kernel_rfl)) k2 bel lt2) trodAll_mk0))), rfl, bel.frame _, fun h => by cases h⟩

theorem over : Rows.fnRecoverBringsUpJustTheSitesItIsGivenRow.holds Try.pinned (OpenSpec.ofChange Rows.fnRecoverBringsUpJustTheSitesItIsGivenSpec) :=
  OpenClaim.holds_of_wide 3 Try.f3 rfl rfl rfl rfl rfl rfl rfl ⟨rfl, rfl, rfl, rfl, rfl⟩ rfl rfl rfl rfl rfl (by kernel_rfl) Try.func3 (by kernel_rfl)
    (of_decide_eq_true (by kernel_rfl)) (by unfold Func.isWrapper; first | (rw [if_pos (by decide +kernel)]; kernel_rfl) | (rw [if_neg (by decide +kernel)]; exact ⟨rfl, rfl⟩))
    (fun os started H enc _ => lifted os started H enc)

/-- THE STATEMENT -/
theorem proved : Rows.FnRecoverBringsUpJustTheSitesItIsGivenSaid := over
end Go.Proofs.Qxb6613252a.fnRecoverBringsUpJustTheSitesItIsGiven

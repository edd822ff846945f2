/-
  The callees' contracts (seat b6613252a): zzBytes.. (4), recover (9), ZZrecover (6), ZZsiteDown (7), ZZsiteDownSince (8).
-/
import Derived.Test.Qxb6613252aRows
import Derived.WalkKit
import Derived.Deep.OwnRows
namespace Go.Proofs.Qxb6613252a
open Go.ChangeShapes Go.WideShapes Go.RowKit

set_option maxHeartbeats 400000 in
theorem bytes_any (a0 a1 a2 : Option Addr) (n0 n1 n2 c0 c1 c2 : Nat) (w : World) :
    Calls Try.prog 4 #[.slice a0 n0 c0, .slice a1 n1 c1, .slice a2 n2 c2] w fun e w' => (∃ b : Bool, e = .returned (.bool b)) ∧ w' = w := by
  go_enter Try.func4, Try.ntmps4
  go_wp2
  all_goals
    go_ret
    exact ⟨⟨_, rfl⟩, rfl⟩

set_option maxHeartbeats 400000 in
theorem down_any (bs bx n s : Nat) (v : Bool) (w : World) (hs : s < n)
    (hf : w.cell? ⟨bs, 5, none⟩ = some (.slice (some ⟨bx, 0, none⟩) (n + 1) (n + 1)))
    (hc : w.cell? ⟨bx, (s + 1) * 3, none⟩ = some (.bool v)) :
    Calls Try.prog 7 #[.pointer (some ⟨bs, 0, none⟩), .int .i64 ((s : Int) + 1)] w fun e w' => e = .returned (.bool v) ∧ w' = w := by
  go_enter Try.func7, Try.ntmps7
  go_wp2
  go_ret
  exact ⟨rfl, rfl⟩

set_option maxHeartbeats 400000 in
theorem since_any (bs bx n s : Nat) (v : Int) (w : World) (hs : s < n)
    (hf : w.cell? ⟨bs, 5, none⟩ = some (.slice (some ⟨bx, 0, none⟩) (n + 1) (n + 1)))
    (hc : w.cell? ⟨bx, (s + 1) * 3 + 1, none⟩ = some (.int .i64 v)) :
    Calls Try.prog 8 #[.pointer (some ⟨bs, 0, none⟩), .int .i64 ((s : Int) + 1)] w fun e w' => e = .returned (.int .i64 v) ∧ w' = w := by
  go_enter Try.func8, Try.ntmps8
  go_wp2
  go_ret
  exact ⟨rfl, rfl⟩

set_option maxHeartbeats 400000 in
theorem recover_any (bs bx n s : Nat) (u : Value) (w : World) (hs : s ≤ n)
    (hf : w.cell? ⟨bs, 5, none⟩ = some (.slice (some ⟨bx, 0, none⟩) (n + 1) (n + 1)))
    (hc : w.cell? ⟨bx, s * 3, none⟩ = some u) (hz : w.frozen? ⟨bx, s * 3, none⟩ = false) :
    Calls Try.prog 9 #[.pointer (some ⟨bs, 0, none⟩), .int .i64 s] w fun e w' => e = .returned (.tuple #[]) ∧ w' = w.setCell ⟨bx, s * 3, none⟩ (.bool false) := by
  go_enter Try.func9, Try.ntmps9
  go_wp2
  go_end0
  exact ⟨rfl, rfl⟩

set_option maxHeartbeats 400000 in
theorem zzrecover_any (bs bx n s : Nat) (u : Value) (w : World) (hs : s ≤ n)
    (hf : w.cell? ⟨bs, 5, none⟩ = some (.slice (some ⟨bx, 0, none⟩) (n + 1) (n + 1)))
    (hc : w.cell? ⟨bx, s * 3, none⟩ = some u) (hz : w.frozen? ⟨bx, s * 3, none⟩ = false) :
    Calls Try.prog 6 #[.pointer (some ⟨bs, 0, none⟩), .int .i64 s] w fun e w' => e = .returned (.tuple #[]) ∧ w' = w.setCell ⟨bx, s * 3, none⟩ (.bool false) := by
  go_enter Try.func6, Try.ntmps6
  go_wp2_with (go_at_call 9; refine (recover_any bs bx n s u _ hs hf hc hz).mono ?_; rintro e w' ⟨rfl, rfl⟩)
  go_end0
  exact ⟨rfl, rfl⟩
end Go.Proofs.Qxb6613252a

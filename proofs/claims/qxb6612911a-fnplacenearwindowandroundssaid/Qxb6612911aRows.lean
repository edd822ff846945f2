/-
  No cell of these rows narrows 'for every input' (looked for: loops, veiled, ifaces, maps, wideKeys, modest, calm, conditions, laid).
  DERIVED. THE GIVEN ROWS OF THIS SEAT. 1 by the template 'for every input the law returns true; each argument reads behind the call as it read before'; 0 by the template 'total and deterministic' (their statements: Qxb6612911aTotals.lean).
  GIVEN WITH THE SEED: the statements are not yours to turn. If you find one false, say at which input.
  Laid BY PROGRAM, IN A SANDBOX (cutbox-rows.mjs): the forced cells as the released guide's own fill.sh prints them over the translation 13c3590671ebd864… (all of the seat's roots in one cut). By AI agents, Wed Nov 11 2026. No macro, syntax, notation, axiom, sorry.
-/
import Derived.Test.Qxb6612911aChecked
import GoSem.Claim
import GoSem.ClaimJoined
import GoSem.ClaimMapViews
import Derived.JoinedTies
import Derived.KernelRfl
namespace Go.Proofs.Qxb6612911a
/- THE CELL 'sum', in the pinned program and in every row, IS THE sha256 OF THE DUMP (.gsa) THAT Qxb6612911aProg.lean LOADS. Nothing in Lean hashes anything: it is a label: what it is worth is what the hold of that sum in a sandbox is worth. -/
noncomputable def Try.pinned : Pinned := { name := "qxb6612911a", sum := "13c3590671ebd8647ae7b0e9108c52e8ba558e633664918c2105795e273c9ed7", checked := Try.checked }
namespace Rows
def none {H : Type} : Left H := { results := [], args := [] }

/-- 'zzlaws_pkg_store_b1.FnPlaceNearWindowAndRounds': WHATEVER THE INPUT: true; the input reads as it did. -/
def fnPlaceNearWindowAndRoundsSpec : ChangeSpec := { name := "fnPlaceNearWindowAndRounds", fn := fun _ => fun
  | [d1, d2, d3] => { results := [.lit (.bool true)], args := [d1, d2, d3] }
  | _ => none }
def fnPlaceNearWindowAndRoundsRow : OpenClaim := { program := "qxb6612911a", sum := "13c3590671ebd8647ae7b0e9108c52e8ba558e633664918c2105795e273c9ed7", func := "example.com/tollgate/tollgate/zzlaws_pkg_store_b1.FnPlaceNearWindowAndRounds", spec := "fnPlaceNearWindowAndRounds", apart := false }
def FnPlaceNearWindowAndRoundsSaid : Prop := fnPlaceNearWindowAndRoundsRow.holds Try.pinned (OpenSpec.ofChange fnPlaceNearWindowAndRoundsSpec)

/-- ITS FALSE NEIGHBOUR: 'it returns false'. Refute it at one input. -/
def fnPlaceNearWindowAndRoundsWrong : ChangeSpec := { name := "fnPlaceNearWindowAndRounds", fn := fun _ => fun
  | [d1, d2, d3] => { results := [.lit (.bool false)], args := [d1, d2, d3] }
  | _ => none }
def FnPlaceNearWindowAndRoundsWrongFalsely : Prop := fnPlaceNearWindowAndRoundsRow.holds Try.pinned (OpenSpec.ofChange fnPlaceNearWindowAndRoundsWrong)

end Rows
end Go.Proofs.Qxb6612911a

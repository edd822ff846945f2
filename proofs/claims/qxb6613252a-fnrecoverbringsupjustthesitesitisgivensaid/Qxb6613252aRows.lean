/-
  No cell of these rows narrows 'for every input' (looked for: loops, veiled, ifaces, maps, wideKeys, modest, calm, conditions, laid).
  DERIVED. THE GIVEN ROWS OF THIS SEAT. 1 by the template 'for every input the law returns true; each argument reads behind the call as it read before'; 0 by the template 'total and deterministic' (their statements: Qxb6613252aTotals.lean).
  GIVEN WITH THE SEED: the statements are not yours to turn. If you find one false, say at which input.
  Laid BY PROGRAM, IN A SANDBOX (cutbox-rows.mjs): the forced cells as the released guide's own fill.sh prints them over the translation 62ed636c3527704c… (all of the seat's roots in one cut). By AI agents, Wed Nov 11 2026. No macro, syntax, notation, axiom, sorry.
-/
import Derived.Test.Qxb6613252aChecked
import GoSem.Claim
import GoSem.ClaimJoined
import GoSem.ClaimMapViews
import Derived.JoinedTies
import Derived.KernelRfl
namespace Go.Proofs.Qxb6613252a
/- THE CELL 'sum', in the pinned program and in every row, IS THE sha256 OF THE DUMP (.gsa) THAT Qxb6613252aProg.lean LOADS. Nothing in Lean hashes anything: it is a label: what it is worth is what the hold of that sum in a sandbox is worth. -/
noncomputable def Try.pinned : Pinned := { name := "qxb6613252a", sum := "62ed636c3527704cc261b083e25d23becc52a2e7398bb54121e4531f580642c9", checked := Try.checked }
namespace Rows
def none {H : Type} : Left H := { results := [], args := [] }

/-- 'zzlaws_sim_b1.FnRecoverBringsUpJustTheSitesItIsGiven': WHATEVER THE INPUT: true; the input reads as it did. -/
def fnRecoverBringsUpJustTheSitesItIsGivenSpec : ChangeSpec := { name := "fnRecoverBringsUpJustTheSitesItIsGiven", fn := fun _ => fun
  | [d1, d2, d3] => { results := [.lit (.bool true)], args := [d1, d2, d3] }
  | _ => none }
def fnRecoverBringsUpJustTheSitesItIsGivenRow : OpenClaim := { program := "qxb6613252a", sum := "62ed636c3527704cc261b083e25d23becc52a2e7398bb54121e4531f580642c9", func := "example.com/tenfold/tenfold/zzlaws_sim_b1.FnRecoverBringsUpJustTheSitesItIsGiven", spec := "fnRecoverBringsUpJustTheSitesItIsGiven", apart := false }
def FnRecoverBringsUpJustTheSitesItIsGivenSaid : Prop := fnRecoverBringsUpJustTheSitesItIsGivenRow.holds Try.pinned (OpenSpec.ofChange fnRecoverBringsUpJustTheSitesItIsGivenSpec)

/-- ITS FALSE NEIGHBOUR: 'it returns false'. Refute it at one input. -/
def fnRecoverBringsUpJustTheSitesItIsGivenWrong : ChangeSpec := { name := "fnRecoverBringsUpJustTheSitesItIsGiven", fn := fun _ => fun
  | [d1, d2, d3] => { results := [.lit (.bool false)], args := [d1, d2, d3] }
  | _ => none }
def FnRecoverBringsUpJustTheSitesItIsGivenWrongFalsely : Prop := fnRecoverBringsUpJustTheSitesItIsGivenRow.holds Try.pinned (OpenSpec.ofChange fnRecoverBringsUpJustTheSitesItIsGivenWrong)

end Rows
end Go.Proofs.Qxb6613252a

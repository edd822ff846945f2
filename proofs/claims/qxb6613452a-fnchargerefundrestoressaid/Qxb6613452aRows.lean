/-
  No cell of these rows narrows 'for every input' (looked for: loops, veiled, ifaces, maps, wideKeys, modest, calm, conditions, laid).
  DERIVED. THE GIVEN ROWS OF THIS SEAT. 1 by the template 'for every input the law returns true; each argument reads behind the call as it read before'; 0 by the template 'total and deterministic' (their statements: Qxb6613452aTotals.lean).
  GIVEN WITH THE SEED: the statements are not yours to turn. If you find one false, say at which input.
  Laid BY PROGRAM, IN A SANDBOX (cutbox-rows.mjs): the forced cells as the released guide's own fill.sh prints them over the translation e739cb6ba9bd3d57… (all of the seat's roots in one cut). By AI agents, Wed Nov 11 2026. No macro, syntax, notation, axiom, sorry.
-/
import Derived.Test.Qxb6613452aChecked
import GoSem.Claim
import GoSem.ClaimJoined
import GoSem.ClaimMapViews
import Derived.JoinedTies
import Derived.KernelRfl
namespace Go.Proofs.Qxb6613452a
/- THE CELL 'sum', in the pinned program and in every row, IS THE sha256 OF THE DUMP (.gsa) THAT Qxb6613452aProg.lean LOADS. Nothing in Lean hashes anything: it is a label: what it is worth is what the hold of that sum in a sandbox is worth. -/
noncomputable def Try.pinned : Pinned := { name := "qxb6613452a", sum := "e739cb6ba9bd3d57d2b64e31a698db4ac2593109d82b2e90d51f6a999349dd6a", checked := Try.checked }
namespace Rows
def none {H : Type} : Left H := { results := [], args := [] }

/-- 'zzlaws_pkg_manifest_b1.FnChargeRefundRestores': WHATEVER THE INPUT: true; the input reads as it did. -/
def fnChargeRefundRestoresSpec : ChangeSpec := { name := "fnChargeRefundRestores", fn := fun _ => fun
  | [d1, d2] => { results := [.lit (.bool true)], args := [d1, d2] }
  | _ => none }
def fnChargeRefundRestoresRow : OpenClaim := { program := "qxb6613452a", sum := "e739cb6ba9bd3d57d2b64e31a698db4ac2593109d82b2e90d51f6a999349dd6a", func := "example.com/appcard/appcard/zzlaws_pkg_manifest_b1.FnChargeRefundRestores", spec := "fnChargeRefundRestores", apart := false }
def FnChargeRefundRestoresSaid : Prop := fnChargeRefundRestoresRow.holds Try.pinned (OpenSpec.ofChange fnChargeRefundRestoresSpec)

/-- ITS FALSE NEIGHBOUR: 'it returns false'. Refute it at one input. -/
def fnChargeRefundRestoresWrong : ChangeSpec := { name := "fnChargeRefundRestores", fn := fun _ => fun
  | [d1, d2] => { results := [.lit (.bool false)], args := [d1, d2] }
  | _ => none }
def FnChargeRefundRestoresWrongFalsely : Prop := fnChargeRefundRestoresRow.holds Try.pinned (OpenSpec.ofChange fnChargeRefundRestoresWrong)

end Rows
end Go.Proofs.Qxb6613452a

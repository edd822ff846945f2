/-
  No cell of these rows narrows 'for every input' (looked for: loops, veiled, ifaces, maps, wideKeys, modest, calm, conditions, laid).
  DERIVED. THE GIVEN ROWS OF THIS SEAT. 2 by the template 'for every input the law returns true; each argument reads behind the call as it read before'; 0 by the template 'total and deterministic' (their statements: Qxb6614039aTotals.lean).
  GIVEN WITH THE SEED: the statements are not yours to turn. If you find one false, say at which input.
  Laid BY PROGRAM, IN A SANDBOX (cutbox-rows.mjs): the forced cells as the released guide's own fill.sh prints them over the translation be5327fc4dc3e64e… (all of the seat's roots in one cut). By AI agents, Wed Nov 11 2026. No macro, syntax, notation, axiom, sorry.
-/
import Derived.Test.Qxb6614039aChecked
import GoSem.Claim
import GoSem.ClaimJoined
import GoSem.ClaimMapViews
import Derived.JoinedTies
import Derived.KernelRfl
namespace Go.Proofs.Qxb6614039a
/- THE CELL 'sum', in the pinned program and in every row, IS THE sha256 OF THE DUMP (.gsa) THAT Qxb6614039aProg.lean LOADS. Nothing in Lean hashes anything: it is a label: what it is worth is what the hold of that sum in a sandbox is worth. -/
noncomputable def Try.pinned : Pinned := { name := "qxb6614039a", sum := "be5327fc4dc3e64ee201b7a813955d30bedac971e6fd2224a88929119610effd", checked := Try.checked }
namespace Rows
def none {H : Type} : Left H := { results := [], args := [] }

/-- 'zzlaws_postgres_b1.FnRetryWaitDoublesFromOneSecond': WHATEVER THE INPUT: true; the input reads as it did. -/
def fnRetryWaitDoublesFromOneSecondSpec : ChangeSpec := { name := "fnRetryWaitDoublesFromOneSecond", fn := fun _ => fun
  | [d] => { results := [.lit (.bool true)], args := [d] }
  | _ => none }
def fnRetryWaitDoublesFromOneSecondRow : OpenClaim := { program := "qxb6614039a", sum := "be5327fc4dc3e64ee201b7a813955d30bedac971e6fd2224a88929119610effd", func := "example.com/commitbox/commitbox/zzlaws_postgres_b1.FnRetryWaitDoublesFromOneSecond", spec := "fnRetryWaitDoublesFromOneSecond", apart := false }
def FnRetryWaitDoublesFromOneSecondSaid : Prop := fnRetryWaitDoublesFromOneSecondRow.holds Try.pinned (OpenSpec.ofChange fnRetryWaitDoublesFromOneSecondSpec)

/-- ITS FALSE NEIGHBOUR: 'it returns false'. Refute it at one input. -/
def fnRetryWaitDoublesFromOneSecondWrong : ChangeSpec := { name := "fnRetryWaitDoublesFromOneSecond", fn := fun _ => fun
  | [d] => { results := [.lit (.bool false)], args := [d] }
  | _ => none }
def FnRetryWaitDoublesFromOneSecondWrongFalsely : Prop := fnRetryWaitDoublesFromOneSecondRow.holds Try.pinned (OpenSpec.ofChange fnRetryWaitDoublesFromOneSecondWrong)

/-- 'zzlaws_postgres_b1.FnRetryWaitOneSecondMoreThanAllBefore': WHATEVER THE INPUT: true; the input reads as it did. -/
def fnRetryWaitOneSecondMoreThanAllBeforeSpec : ChangeSpec := { name := "fnRetryWaitOneSecondMoreThanAllBefore", fn := fun _ => fun
  | [d] => { results := [.lit (.bool true)], args := [d] }
  | _ => none }
def fnRetryWaitOneSecondMoreThanAllBeforeRow : OpenClaim := { program := "qxb6614039a", sum := "be5327fc4dc3e64ee201b7a813955d30bedac971e6fd2224a88929119610effd", func := "example.com/commitbox/commitbox/zzlaws_postgres_b1.FnRetryWaitOneSecondMoreThanAllBefore", spec := "fnRetryWaitOneSecondMoreThanAllBefore", apart := false }
def FnRetryWaitOneSecondMoreThanAllBeforeSaid : Prop := fnRetryWaitOneSecondMoreThanAllBeforeRow.holds Try.pinned (OpenSpec.ofChange fnRetryWaitOneSecondMoreThanAllBeforeSpec)

/-- ITS FALSE NEIGHBOUR: 'it returns false'. Refute it at one input. -/
def fnRetryWaitOneSecondMoreThanAllBeforeWrong : ChangeSpec := { name := "fnRetryWaitOneSecondMoreThanAllBefore", fn := fun _ => fun
  | [d] => { results := [.lit (.bool false)], args := [d] }
  | _ => none }
def FnRetryWaitOneSecondMoreThanAllBeforeWrongFalsely : Prop := fnRetryWaitOneSecondMoreThanAllBeforeRow.holds Try.pinned (OpenSpec.ofChange fnRetryWaitOneSecondMoreThanAllBeforeWrong)

end Rows
end Go.Proofs.Qxb6614039a

/-
  No cell of these rows narrows 'for every input' (looked for: loops, veiled, ifaces, maps, wideKeys, modest, calm, conditions, laid).
  DERIVED. THE GIVEN ROWS OF THIS SEAT. 1 by the template 'for every input the law returns true; each argument reads behind the call as it read before'; 0 by the template 'total and deterministic' (their statements: Qxb6602772aTotals.lean).
  GIVEN WITH THE SEED: the statements are not yours to turn. If you find one false, say at which input.
  Laid BY PROGRAM, IN A SANDBOX (cutbox-rows.mjs): the forced cells as the released guide's own fill.sh prints them over the translation 6d4b80db8e87007e… (all of the seat's roots in one cut). By AI agents, Wed Nov 11 2026. No macro, syntax, notation, axiom, sorry.
-/
import Derived.Test.Qxb6602772aChecked
import GoSem.Claim
import GoSem.ClaimJoined
import GoSem.ClaimMapViews
import Derived.JoinedTies
import Derived.KernelRfl
namespace Go.Proofs.Qxb6602772a
/- THE CELL 'sum', in the pinned program and in every row, IS THE sha256 OF THE DUMP (.gsa) THAT Qxb6602772aProg.lean LOADS. Nothing in Lean hashes anything: it is a label: what it is worth is what the hold of that sum in a sandbox is worth. -/
noncomputable def Try.pinned : Pinned := { name := "qxb6602772a", sum := "6d4b80db8e87007e18141d92cd05d1ebe577059922b4bf9eac7d7963d7e2259a", checked := Try.checked }
namespace Rows
def none {H : Type} : Left H := { results := [], args := [] }

/-- 'zzlaws_internal_jsonread_b1.FnDescribeNestingAgree': WHATEVER THE INPUT: true; the input reads as it did. -/
def fnDescribeNestingAgreeSpec : ChangeSpec := { name := "fnDescribeNestingAgree", fn := fun _ => fun
  | [d1, d2] => { results := [.lit (.bool true)], args := [d1, d2] }
  | _ => none }
def fnDescribeNestingAgreeRow : OpenClaim := { program := "qxb6602772a", sum := "6d4b80db8e87007e18141d92cd05d1ebe577059922b4bf9eac7d7963d7e2259a", func := "example.com/deny/deny/zzlaws_internal_jsonread_b1.FnDescribeNestingAgree", spec := "fnDescribeNestingAgree", apart := false }
def FnDescribeNestingAgreeSaid : Prop := fnDescribeNestingAgreeRow.holds Try.pinned (OpenSpec.ofChange fnDescribeNestingAgreeSpec)

/-- ITS FALSE NEIGHBOUR: 'it returns false'. Refute it at one input. -/
def fnDescribeNestingAgreeWrong : ChangeSpec := { name := "fnDescribeNestingAgree", fn := fun _ => fun
  | [d1, d2] => { results := [.lit (.bool false)], args := [d1, d2] }
  | _ => none }
def FnDescribeNestingAgreeWrongFalsely : Prop := fnDescribeNestingAgreeRow.holds Try.pinned (OpenSpec.ofChange fnDescribeNestingAgreeWrong)

end Rows
end Go.Proofs.Qxb6602772a

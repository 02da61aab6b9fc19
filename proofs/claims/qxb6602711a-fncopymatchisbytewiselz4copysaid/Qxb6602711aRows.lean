/-
  No cell of these rows narrows 'for every input' (looked for: loops, veiled, ifaces, maps, wideKeys, modest, calm, conditions, laid).
  DERIVED. THE GIVEN ROWS OF THIS SEAT. 2 by the template 'for every input the law returns true; each argument reads behind the call as it read before'; 0 by the template 'total and deterministic' (their statements: Qxb6602711aTotals.lean).
  GIVEN WITH THE SEED: the statements are not yours to turn. If you find one false, say at which input.
  Laid BY PROGRAM, IN A SANDBOX (cutbox-rows.mjs): the forced cells as the released guide's own fill.sh prints them over the translation 450cd04c2a945051… (all of the seat's roots in one cut). By AI agents, Wed Nov 11 2026. No macro, syntax, notation, axiom, sorry.
-/
import Derived.Test.Qxb6602711aChecked
import GoSem.Claim
import GoSem.ClaimJoined
import GoSem.ClaimMapViews
import Derived.JoinedTies
import Derived.KernelRfl
namespace Go.Proofs.Qxb6602711a
/- THE CELL 'sum', in the pinned program and in every row, IS THE sha256 OF THE DUMP (.gsa) THAT Qxb6602711aProg.lean LOADS. Nothing in Lean hashes anything: it is a label: what it is worth is what the hold of that sum in a sandbox is worth. -/
noncomputable def Try.pinned : Pinned := { name := "qxb6602711a", sum := "450cd04c2a9450519c0b043295ab6963ea17c2f7d6349b5595e96d11054ff142", checked := Try.checked }
namespace Rows
def none {H : Type} : Left H := { results := [], args := [] }

/-- 'zzlaws_pkg_wire_b1.FnCopyMatchIsByteWiseLZ4Copy': WHATEVER THE INPUT: true; the input reads as it did. -/
def fnCopyMatchIsByteWiseLZ4CopySpec : ChangeSpec := { name := "fnCopyMatchIsByteWiseLZ4Copy", fn := fun _ => fun
  | [d1, d2, d3, d4, d5, d6, d7, d8, d9, d10] => { results := [.lit (.bool true)], args := [d1, d2, d3, d4, d5, d6, d7, d8, d9, d10] }
  | _ => none }
def fnCopyMatchIsByteWiseLZ4CopyRow : OpenClaim := { program := "qxb6602711a", sum := "450cd04c2a9450519c0b043295ab6963ea17c2f7d6349b5595e96d11054ff142", func := "example.com/blockmere/blockmere/zzlaws_pkg_wire_b1.FnCopyMatchIsByteWiseLZ4Copy", spec := "fnCopyMatchIsByteWiseLZ4Copy", apart := false }
def FnCopyMatchIsByteWiseLZ4CopySaid : Prop := fnCopyMatchIsByteWiseLZ4CopyRow.holds Try.pinned (OpenSpec.ofChange fnCopyMatchIsByteWiseLZ4CopySpec)

/-- ITS FALSE NEIGHBOUR: 'it returns false'. Refute it at one input. -/
def fnCopyMatchIsByteWiseLZ4CopyWrong : ChangeSpec := { name := "fnCopyMatchIsByteWiseLZ4Copy", fn := fun _ => fun
  | [d1, d2, d3, d4, d5, d6, d7, d8, d9, d10] => { results := [.lit (.bool false)], args := [d1, d2, d3, d4, d5, d6, d7, d8, d9, d10] }
  | _ => none }
def FnCopyMatchIsByteWiseLZ4CopyWrongFalsely : Prop := fnCopyMatchIsByteWiseLZ4CopyRow.holds Try.pinned (OpenSpec.ofChange fnCopyMatchIsByteWiseLZ4CopyWrong)

/-- 'zzlaws_pkg_wire_b1.FnCopyMatchSplitsAsOneMatch': WHATEVER THE INPUT: true; the input reads as it did. -/
def fnCopyMatchSplitsAsOneMatchSpec : ChangeSpec := { name := "fnCopyMatchSplitsAsOneMatch", fn := fun _ => fun
  | [d1, d2, d3, d4, d5, d6, d7] => { results := [.lit (.bool true)], args := [d1, d2, d3, d4, d5, d6, d7] }
  | _ => none }
def fnCopyMatchSplitsAsOneMatchRow : OpenClaim := { program := "qxb6602711a", sum := "450cd04c2a9450519c0b043295ab6963ea17c2f7d6349b5595e96d11054ff142", func := "example.com/blockmere/blockmere/zzlaws_pkg_wire_b1.FnCopyMatchSplitsAsOneMatch", spec := "fnCopyMatchSplitsAsOneMatch", apart := false }
def FnCopyMatchSplitsAsOneMatchSaid : Prop := fnCopyMatchSplitsAsOneMatchRow.holds Try.pinned (OpenSpec.ofChange fnCopyMatchSplitsAsOneMatchSpec)

/-- ITS FALSE NEIGHBOUR: 'it returns false'. Refute it at one input. -/
def fnCopyMatchSplitsAsOneMatchWrong : ChangeSpec := { name := "fnCopyMatchSplitsAsOneMatch", fn := fun _ => fun
  | [d1, d2, d3, d4, d5, d6, d7] => { results := [.lit (.bool false)], args := [d1, d2, d3, d4, d5, d6, d7] }
  | _ => none }
def FnCopyMatchSplitsAsOneMatchWrongFalsely : Prop := fnCopyMatchSplitsAsOneMatchRow.holds Try.pinned (OpenSpec.ofChange fnCopyMatchSplitsAsOneMatchWrong)

end Rows
end Go.Proofs.Qxb6602711a

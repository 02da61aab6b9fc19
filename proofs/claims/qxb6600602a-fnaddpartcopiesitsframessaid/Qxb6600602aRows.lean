/-
  No cell of these rows narrows 'for every input' (looked for: loops, veiled, ifaces, maps, wideKeys, modest, calm, conditions, laid).
  DERIVED. THE GIVEN ROWS OF THIS SEAT. 9 by the template 'for every input the law returns true; each argument reads behind the call as it read before'; 0 by the template 'total and deterministic' (their statements: Qxb6600602aTotals.lean).
  GIVEN WITH THE SEED: the statements are not yours to turn. If you find one false, say at which input.
  Laid BY PROGRAM, IN A SANDBOX (cutbox-rows.mjs): the forced cells as the released guide's own fill.sh prints them over the translation 7581db435ef70652… (all of the seat's roots in one cut). By AI agents, Wed Nov 11 2026. No macro, syntax, notation, axiom, sorry.
-/
import Derived.Test.Qxb6600602aChecked
import GoSem.Claim
import GoSem.ClaimJoined
import GoSem.ClaimMapViews
import Derived.JoinedTies
import Derived.KernelRfl
namespace Go.Proofs.Qxb6600602a
/- THE CELL 'sum', in the pinned program and in every row, IS THE sha256 OF THE DUMP (.gsa) THAT Qxb6600602aProg.lean LOADS. Nothing in Lean hashes anything: it is a label: what it is worth is what the hold of that sum in a sandbox is worth. -/
noncomputable def Try.pinned : Pinned := { name := "qxb6600602a", sum := "7581db435ef7065249af89f4ac8d19d12b0bc5c4c62bbbb1267638b5bb3ede9b", checked := Try.checked }
namespace Rows
def none {H : Type} : Left H := { results := [], args := [] }

/-- 'zzlaws_pkg_server_b1.FnCutMatchesPrefixSumModel': WHATEVER THE INPUT: true; the input reads as it did. -/
def fnCutMatchesPrefixSumModelSpec : ChangeSpec := { name := "fnCutMatchesPrefixSumModel", fn := fun _ => fun
  | [d1, d2] => { results := [.lit (.bool true)], args := [d1, d2] }
  | _ => none }
def fnCutMatchesPrefixSumModelRow : OpenClaim := { program := "qxb6600602a", sum := "7581db435ef7065249af89f4ac8d19d12b0bc5c4c62bbbb1267638b5bb3ede9b", func := "example.com/demarc/demarc/zzlaws_pkg_server_b1.FnCutMatchesPrefixSumModel", spec := "fnCutMatchesPrefixSumModel", apart := false }
def FnCutMatchesPrefixSumModelSaid : Prop := fnCutMatchesPrefixSumModelRow.holds Try.pinned (OpenSpec.ofChange fnCutMatchesPrefixSumModelSpec)

/-- ITS FALSE NEIGHBOUR: 'it returns false'. Refute it at one input. -/
def fnCutMatchesPrefixSumModelWrong : ChangeSpec := { name := "fnCutMatchesPrefixSumModel", fn := fun _ => fun
  | [d1, d2] => { results := [.lit (.bool false)], args := [d1, d2] }
  | _ => none }
def FnCutMatchesPrefixSumModelWrongFalsely : Prop := fnCutMatchesPrefixSumModelRow.holds Try.pinned (OpenSpec.ofChange fnCutMatchesPrefixSumModelWrong)

/-- 'zzlaws_pkg_server_b1.FnCutSplitsTheFlatOctetsAtN': WHATEVER THE INPUT: true; the input reads as it did. -/
def fnCutSplitsTheFlatOctetsAtNSpec : ChangeSpec := { name := "fnCutSplitsTheFlatOctetsAtN", fn := fun _ => fun
  | [d1, d2] => { results := [.lit (.bool true)], args := [d1, d2] }
  | _ => none }
def fnCutSplitsTheFlatOctetsAtNRow : OpenClaim := { program := "qxb6600602a", sum := "7581db435ef7065249af89f4ac8d19d12b0bc5c4c62bbbb1267638b5bb3ede9b", func := "example.com/demarc/demarc/zzlaws_pkg_server_b1.FnCutSplitsTheFlatOctetsAtN", spec := "fnCutSplitsTheFlatOctetsAtN", apart := false }
def FnCutSplitsTheFlatOctetsAtNSaid : Prop := fnCutSplitsTheFlatOctetsAtNRow.holds Try.pinned (OpenSpec.ofChange fnCutSplitsTheFlatOctetsAtNSpec)

/-- ITS FALSE NEIGHBOUR: 'it returns false'. Refute it at one input. -/
def fnCutSplitsTheFlatOctetsAtNWrong : ChangeSpec := { name := "fnCutSplitsTheFlatOctetsAtN", fn := fun _ => fun
  | [d1, d2] => { results := [.lit (.bool false)], args := [d1, d2] }
  | _ => none }
def FnCutSplitsTheFlatOctetsAtNWrongFalsely : Prop := fnCutSplitsTheFlatOctetsAtNRow.holds Try.pinned (OpenSpec.ofChange fnCutSplitsTheFlatOctetsAtNWrong)

/-- 'zzlaws_pkg_server_b1.FnCutTwiceIsCutOnceBySum': WHATEVER THE INPUT: true; the input reads as it did. -/
def fnCutTwiceIsCutOnceBySumSpec : ChangeSpec := { name := "fnCutTwiceIsCutOnceBySum", fn := fun _ => fun
  | [d1, d2, d3] => { results := [.lit (.bool true)], args := [d1, d2, d3] }
  | _ => none }
def fnCutTwiceIsCutOnceBySumRow : OpenClaim := { program := "qxb6600602a", sum := "7581db435ef7065249af89f4ac8d19d12b0bc5c4c62bbbb1267638b5bb3ede9b", func := "example.com/demarc/demarc/zzlaws_pkg_server_b1.FnCutTwiceIsCutOnceBySum", spec := "fnCutTwiceIsCutOnceBySum", apart := false }
def FnCutTwiceIsCutOnceBySumSaid : Prop := fnCutTwiceIsCutOnceBySumRow.holds Try.pinned (OpenSpec.ofChange fnCutTwiceIsCutOnceBySumSpec)

/-- ITS FALSE NEIGHBOUR: 'it returns false'. Refute it at one input. -/
def fnCutTwiceIsCutOnceBySumWrong : ChangeSpec := { name := "fnCutTwiceIsCutOnceBySum", fn := fun _ => fun
  | [d1, d2, d3] => { results := [.lit (.bool false)], args := [d1, d2, d3] }
  | _ => none }
def FnCutTwiceIsCutOnceBySumWrongFalsely : Prop := fnCutTwiceIsCutOnceBySumRow.holds Try.pinned (OpenSpec.ofChange fnCutTwiceIsCutOnceBySumWrong)

/-- 'zzlaws_pkg_server_b1.FnAddPartKeepsEveryOctetInOrder': WHATEVER THE INPUT: true; the input reads as it did. -/
def fnAddPartKeepsEveryOctetInOrderSpec : ChangeSpec := { name := "fnAddPartKeepsEveryOctetInOrder", fn := fun _ => fun
  | [d] => { results := [.lit (.bool true)], args := [d] }
  | _ => none }
def fnAddPartKeepsEveryOctetInOrderRow : OpenClaim := { program := "qxb6600602a", sum := "7581db435ef7065249af89f4ac8d19d12b0bc5c4c62bbbb1267638b5bb3ede9b", func := "example.com/demarc/demarc/zzlaws_pkg_server_b1.FnAddPartKeepsEveryOctetInOrder", spec := "fnAddPartKeepsEveryOctetInOrder", apart := false }
def FnAddPartKeepsEveryOctetInOrderSaid : Prop := fnAddPartKeepsEveryOctetInOrderRow.holds Try.pinned (OpenSpec.ofChange fnAddPartKeepsEveryOctetInOrderSpec)

/-- ITS FALSE NEIGHBOUR: 'it returns false'. Refute it at one input. -/
def fnAddPartKeepsEveryOctetInOrderWrong : ChangeSpec := { name := "fnAddPartKeepsEveryOctetInOrder", fn := fun _ => fun
  | [d] => { results := [.lit (.bool false)], args := [d] }
  | _ => none }
def FnAddPartKeepsEveryOctetInOrderWrongFalsely : Prop := fnAddPartKeepsEveryOctetInOrderRow.holds Try.pinned (OpenSpec.ofChange fnAddPartKeepsEveryOctetInOrderWrong)

/-- 'zzlaws_pkg_server_b1.FnAddPartSplitsOnlyBetweenFrames': WHATEVER THE INPUT: true; the input reads as it did. -/
def fnAddPartSplitsOnlyBetweenFramesSpec : ChangeSpec := { name := "fnAddPartSplitsOnlyBetweenFrames", fn := fun _ => fun
  | [d] => { results := [.lit (.bool true)], args := [d] }
  | _ => none }
def fnAddPartSplitsOnlyBetweenFramesRow : OpenClaim := { program := "qxb6600602a", sum := "7581db435ef7065249af89f4ac8d19d12b0bc5c4c62bbbb1267638b5bb3ede9b", func := "example.com/demarc/demarc/zzlaws_pkg_server_b1.FnAddPartSplitsOnlyBetweenFrames", spec := "fnAddPartSplitsOnlyBetweenFrames", apart := false }
def FnAddPartSplitsOnlyBetweenFramesSaid : Prop := fnAddPartSplitsOnlyBetweenFramesRow.holds Try.pinned (OpenSpec.ofChange fnAddPartSplitsOnlyBetweenFramesSpec)

/-- ITS FALSE NEIGHBOUR: 'it returns false'. Refute it at one input. -/
def fnAddPartSplitsOnlyBetweenFramesWrong : ChangeSpec := { name := "fnAddPartSplitsOnlyBetweenFrames", fn := fun _ => fun
  | [d] => { results := [.lit (.bool false)], args := [d] }
  | _ => none }
def FnAddPartSplitsOnlyBetweenFramesWrongFalsely : Prop := fnAddPartSplitsOnlyBetweenFramesRow.holds Try.pinned (OpenSpec.ofChange fnAddPartSplitsOnlyBetweenFramesWrong)

/-- 'zzlaws_pkg_server_b1.FnAddPartCopiesItsFrames': WHATEVER THE INPUT: true; the input reads as it did. -/
def fnAddPartCopiesItsFramesSpec : ChangeSpec := { name := "fnAddPartCopiesItsFrames", fn := fun _ => fun
  | [d] => { results := [.lit (.bool true)], args := [d] }
  | _ => none }
def fnAddPartCopiesItsFramesRow : OpenClaim := { program := "qxb6600602a", sum := "7581db435ef7065249af89f4ac8d19d12b0bc5c4c62bbbb1267638b5bb3ede9b", func := "example.com/demarc/demarc/zzlaws_pkg_server_b1.FnAddPartCopiesItsFrames", spec := "fnAddPartCopiesItsFrames", apart := false }
def FnAddPartCopiesItsFramesSaid : Prop := fnAddPartCopiesItsFramesRow.holds Try.pinned (OpenSpec.ofChange fnAddPartCopiesItsFramesSpec)

/-- ITS FALSE NEIGHBOUR: 'it returns false'. Refute it at one input. -/
def fnAddPartCopiesItsFramesWrong : ChangeSpec := { name := "fnAddPartCopiesItsFrames", fn := fun _ => fun
  | [d] => { results := [.lit (.bool false)], args := [d] }
  | _ => none }
def FnAddPartCopiesItsFramesWrongFalsely : Prop := fnAddPartCopiesItsFramesRow.holds Try.pinned (OpenSpec.ofChange fnAddPartCopiesItsFramesWrong)

/-- 'zzlaws_pkg_server_b1.FnAddWholeMessageTakesRoomOfExactlyItsSize': WHATEVER THE INPUT: true; the input reads as it did. -/
def fnAddWholeMessageTakesRoomOfExactlyItsSizeSpec : ChangeSpec := { name := "fnAddWholeMessageTakesRoomOfExactlyItsSize", fn := fun _ => fun
  | [d] => { results := [.lit (.bool true)], args := [d] }
  | _ => none }
def fnAddWholeMessageTakesRoomOfExactlyItsSizeRow : OpenClaim := { program := "qxb6600602a", sum := "7581db435ef7065249af89f4ac8d19d12b0bc5c4c62bbbb1267638b5bb3ede9b", func := "example.com/demarc/demarc/zzlaws_pkg_server_b1.FnAddWholeMessageTakesRoomOfExactlyItsSize", spec := "fnAddWholeMessageTakesRoomOfExactlyItsSize", apart := false }
def FnAddWholeMessageTakesRoomOfExactlyItsSizeSaid : Prop := fnAddWholeMessageTakesRoomOfExactlyItsSizeRow.holds Try.pinned (OpenSpec.ofChange fnAddWholeMessageTakesRoomOfExactlyItsSizeSpec)

/-- ITS FALSE NEIGHBOUR: 'it returns false'. Refute it at one input. -/
def fnAddWholeMessageTakesRoomOfExactlyItsSizeWrong : ChangeSpec := { name := "fnAddWholeMessageTakesRoomOfExactlyItsSize", fn := fun _ => fun
  | [d] => { results := [.lit (.bool false)], args := [d] }
  | _ => none }
def FnAddWholeMessageTakesRoomOfExactlyItsSizeWrongFalsely : Prop := fnAddWholeMessageTakesRoomOfExactlyItsSizeRow.holds Try.pinned (OpenSpec.ofChange fnAddWholeMessageTakesRoomOfExactlyItsSizeWrong)

/-- 'zzlaws_pkg_server_b1.FnAddRoomStaysWithinBoundOfWhatCame': WHATEVER THE INPUT: true; the input reads as it did. -/
def fnAddRoomStaysWithinBoundOfWhatCameSpec : ChangeSpec := { name := "fnAddRoomStaysWithinBoundOfWhatCame", fn := fun _ => fun
  | [d1, d2] => { results := [.lit (.bool true)], args := [d1, d2] }
  | _ => none }
def fnAddRoomStaysWithinBoundOfWhatCameRow : OpenClaim := { program := "qxb6600602a", sum := "7581db435ef7065249af89f4ac8d19d12b0bc5c4c62bbbb1267638b5bb3ede9b", func := "example.com/demarc/demarc/zzlaws_pkg_server_b1.FnAddRoomStaysWithinBoundOfWhatCame", spec := "fnAddRoomStaysWithinBoundOfWhatCame", apart := false }
def FnAddRoomStaysWithinBoundOfWhatCameSaid : Prop := fnAddRoomStaysWithinBoundOfWhatCameRow.holds Try.pinned (OpenSpec.ofChange fnAddRoomStaysWithinBoundOfWhatCameSpec)

/-- ITS FALSE NEIGHBOUR: 'it returns false'. Refute it at one input. -/
def fnAddRoomStaysWithinBoundOfWhatCameWrong : ChangeSpec := { name := "fnAddRoomStaysWithinBoundOfWhatCame", fn := fun _ => fun
  | [d1, d2] => { results := [.lit (.bool false)], args := [d1, d2] }
  | _ => none }
def FnAddRoomStaysWithinBoundOfWhatCameWrongFalsely : Prop := fnAddRoomStaysWithinBoundOfWhatCameRow.holds Try.pinned (OpenSpec.ofChange fnAddRoomStaysWithinBoundOfWhatCameWrong)

/-- 'zzlaws_pkg_server_b1.FnAddCopiesItsFrames': WHATEVER THE INPUT: true; the input reads as it did. -/
def fnAddCopiesItsFramesSpec : ChangeSpec := { name := "fnAddCopiesItsFrames", fn := fun _ => fun
  | [d1, d2] => { results := [.lit (.bool true)], args := [d1, d2] }
  | _ => none }
def fnAddCopiesItsFramesRow : OpenClaim := { program := "qxb6600602a", sum := "7581db435ef7065249af89f4ac8d19d12b0bc5c4c62bbbb1267638b5bb3ede9b", func := "example.com/demarc/demarc/zzlaws_pkg_server_b1.FnAddCopiesItsFrames", spec := "fnAddCopiesItsFrames", apart := false }
def FnAddCopiesItsFramesSaid : Prop := fnAddCopiesItsFramesRow.holds Try.pinned (OpenSpec.ofChange fnAddCopiesItsFramesSpec)

/-- ITS FALSE NEIGHBOUR: 'it returns false'. Refute it at one input. -/
def fnAddCopiesItsFramesWrong : ChangeSpec := { name := "fnAddCopiesItsFrames", fn := fun _ => fun
  | [d1, d2] => { results := [.lit (.bool false)], args := [d1, d2] }
  | _ => none }
def FnAddCopiesItsFramesWrongFalsely : Prop := fnAddCopiesItsFramesRow.holds Try.pinned (OpenSpec.ofChange fnAddCopiesItsFramesWrong)

end Rows
end Go.Proofs.Qxb6600602a

/-
  NARROWER THAN 'FOR EVERY INPUT', by the rows' own cells (each row's printed sentence says how): FnDecideMatchesVoteCount: maps · FnDecideStableAsVotesArrive: maps · FnRecoversEarlierTransactionsToo: maps · FnRecoversSplitsAtAnyCut: maps.
  DERIVED. THE GIVEN ROWS OF THIS SEAT. 4 by the template 'for every input the law returns true; each argument reads behind the call as it read before'; 0 by the template 'total and deterministic' (their statements: Qxb6602769aTotals.lean).
  GIVEN WITH THE SEED: the statements are not yours to turn. If you find one false, say at which input.
  Laid BY PROGRAM, IN A SANDBOX (cutbox-rows.mjs): the forced cells as the released guide's own fill.sh prints them over the translation 090dcf3db86829e6… (all of the seat's roots in one cut). By AI agents, Wed Nov 11 2026. No macro, syntax, notation, axiom, sorry.
-/
import Derived.Test.Qxb6602769aChecked
import GoSem.Claim
import GoSem.ClaimJoined
import GoSem.ClaimMapViews
import Derived.JoinedTies
import Derived.KernelRfl
namespace Go.Proofs.Qxb6602769a
/- THE CELL 'sum', in the pinned program and in every row, IS THE sha256 OF THE DUMP (.gsa) THAT Qxb6602769aProg.lean LOADS. Nothing in Lean hashes anything: it is a label: what it is worth is what the hold of that sum in a sandbox is worth. -/
noncomputable def Try.pinned : Pinned := { name := "qxb6602769a", sum := "090dcf3db86829e65d7dba16d3843ab134ea3e049248c8b248785b9274adce1b", checked := Try.checked }
namespace Rows
def none {H : Type} : Left H := { results := [], args := [] }

/-- 'zzlaws_root_b1.FnDecideMatchesVoteCount': WHATEVER THE INPUT: true; the input reads as it did. -/
def fnDecideMatchesVoteCountSpec : ChangeSpec := { name := "fnDecideMatchesVoteCount", fn := fun _ => fun
  | [d1, d2] => { results := [.lit (.bool true)], args := [d1, d2] }
  | _ => none }
def fnDecideMatchesVoteCountRow : OpenClaim := { program := "qxb6602769a", sum := "090dcf3db86829e65d7dba16d3843ab134ea3e049248c8b248785b9274adce1b", func := "example.com/clockwire/clockwire/zzlaws_root_b1.FnDecideMatchesVoteCount", spec := "fnDecideMatchesVoteCount", maps := true, apart := false }
def FnDecideMatchesVoteCountSaid : Prop := fnDecideMatchesVoteCountRow.holds Try.pinned (OpenSpec.ofChange fnDecideMatchesVoteCountSpec)

/-- ITS FALSE NEIGHBOUR: 'it returns false'. Refute it at one input. -/
def fnDecideMatchesVoteCountWrong : ChangeSpec := { name := "fnDecideMatchesVoteCount", fn := fun _ => fun
  | [d1, d2] => { results := [.lit (.bool false)], args := [d1, d2] }
  | _ => none }
def FnDecideMatchesVoteCountWrongFalsely : Prop := fnDecideMatchesVoteCountRow.holds Try.pinned (OpenSpec.ofChange fnDecideMatchesVoteCountWrong)

/-- 'zzlaws_root_b1.FnDecideStableAsVotesArrive': WHATEVER THE INPUT: true; the input reads as it did. -/
def fnDecideStableAsVotesArriveSpec : ChangeSpec := { name := "fnDecideStableAsVotesArrive", fn := fun _ => fun
  | [d1, d2, d3, d4] => { results := [.lit (.bool true)], args := [d1, d2, d3, d4] }
  | _ => none }
def fnDecideStableAsVotesArriveRow : OpenClaim := { program := "qxb6602769a", sum := "090dcf3db86829e65d7dba16d3843ab134ea3e049248c8b248785b9274adce1b", func := "example.com/clockwire/clockwire/zzlaws_root_b1.FnDecideStableAsVotesArrive", spec := "fnDecideStableAsVotesArrive", maps := true, apart := false }
def FnDecideStableAsVotesArriveSaid : Prop := fnDecideStableAsVotesArriveRow.holds Try.pinned (OpenSpec.ofChange fnDecideStableAsVotesArriveSpec)

/-- ITS FALSE NEIGHBOUR: 'it returns false'. Refute it at one input. -/
def fnDecideStableAsVotesArriveWrong : ChangeSpec := { name := "fnDecideStableAsVotesArrive", fn := fun _ => fun
  | [d1, d2, d3, d4] => { results := [.lit (.bool false)], args := [d1, d2, d3, d4] }
  | _ => none }
def FnDecideStableAsVotesArriveWrongFalsely : Prop := fnDecideStableAsVotesArriveRow.holds Try.pinned (OpenSpec.ofChange fnDecideStableAsVotesArriveWrong)

/-- 'zzlaws_root_b1.FnRecoversEarlierTransactionsToo': WHATEVER THE INPUT: true; the input reads as it did. -/
def fnRecoversEarlierTransactionsTooSpec : ChangeSpec := { name := "fnRecoversEarlierTransactionsToo", fn := fun _ => fun
  | [d1, d2, d3, d4, d5, d6, d7, d8, d9, d10] => { results := [.lit (.bool true)], args := [d1, d2, d3, d4, d5, d6, d7, d8, d9, d10] }
  | _ => none }
def fnRecoversEarlierTransactionsTooRow : OpenClaim := { program := "qxb6602769a", sum := "090dcf3db86829e65d7dba16d3843ab134ea3e049248c8b248785b9274adce1b", func := "example.com/clockwire/clockwire/zzlaws_root_b1.FnRecoversEarlierTransactionsToo", spec := "fnRecoversEarlierTransactionsToo", maps := true, apart := false }
def FnRecoversEarlierTransactionsTooSaid : Prop := fnRecoversEarlierTransactionsTooRow.holds Try.pinned (OpenSpec.ofChange fnRecoversEarlierTransactionsTooSpec)

/-- ITS FALSE NEIGHBOUR: 'it returns false'. Refute it at one input. -/
def fnRecoversEarlierTransactionsTooWrong : ChangeSpec := { name := "fnRecoversEarlierTransactionsToo", fn := fun _ => fun
  | [d1, d2, d3, d4, d5, d6, d7, d8, d9, d10] => { results := [.lit (.bool false)], args := [d1, d2, d3, d4, d5, d6, d7, d8, d9, d10] }
  | _ => none }
def FnRecoversEarlierTransactionsTooWrongFalsely : Prop := fnRecoversEarlierTransactionsTooRow.holds Try.pinned (OpenSpec.ofChange fnRecoversEarlierTransactionsTooWrong)

/-- 'zzlaws_root_b1.FnRecoversSplitsAtAnyCut': WHATEVER THE INPUT: true; the input reads as it did. -/
def fnRecoversSplitsAtAnyCutSpec : ChangeSpec := { name := "fnRecoversSplitsAtAnyCut", fn := fun _ => fun
  | [d1, d2, d3, d4, d5, d6, d7, d8, d9, d10, d11] => { results := [.lit (.bool true)], args := [d1, d2, d3, d4, d5, d6, d7, d8, d9, d10, d11] }
  | _ => none }
def fnRecoversSplitsAtAnyCutRow : OpenClaim := { program := "qxb6602769a", sum := "090dcf3db86829e65d7dba16d3843ab134ea3e049248c8b248785b9274adce1b", func := "example.com/clockwire/clockwire/zzlaws_root_b1.FnRecoversSplitsAtAnyCut", spec := "fnRecoversSplitsAtAnyCut", maps := true, apart := false }
def FnRecoversSplitsAtAnyCutSaid : Prop := fnRecoversSplitsAtAnyCutRow.holds Try.pinned (OpenSpec.ofChange fnRecoversSplitsAtAnyCutSpec)

/-- ITS FALSE NEIGHBOUR: 'it returns false'. Refute it at one input. -/
def fnRecoversSplitsAtAnyCutWrong : ChangeSpec := { name := "fnRecoversSplitsAtAnyCut", fn := fun _ => fun
  | [d1, d2, d3, d4, d5, d6, d7, d8, d9, d10, d11] => { results := [.lit (.bool false)], args := [d1, d2, d3, d4, d5, d6, d7, d8, d9, d10, d11] }
  | _ => none }
def FnRecoversSplitsAtAnyCutWrongFalsely : Prop := fnRecoversSplitsAtAnyCutRow.holds Try.pinned (OpenSpec.ofChange fnRecoversSplitsAtAnyCutWrong)

end Rows
end Go.Proofs.Qxb6602769a

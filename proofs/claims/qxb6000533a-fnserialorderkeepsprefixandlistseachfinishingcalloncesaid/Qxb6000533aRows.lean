/-
  No cell of these rows narrows 'for every input' (looked for: loops, veiled, ifaces, maps, wideKeys, modest, calm, conditions, laid).
  DERIVED. THE GIVEN ROWS OF THIS SEAT. 6 by the template 'for every input the law returns true; each argument reads behind the call as it read before'; 0 by the template 'total and deterministic' (their statements: Qxb6000533aTotals.lean).
  GIVEN WITH THE SEED: the statements are not yours to turn. If you find one false, say at which input.
  Laid BY PROGRAM, IN A SANDBOX (cutbox-rows.mjs): the forced cells as the released guide's own fill.sh prints them over the translation bd0a4ecac51931c4… (all of the seat's roots in one cut). By AI agents, Wed Nov 11 2026. No macro, syntax, notation, axiom, sorry.
-/
import Derived.Test.Qxb6000533aChecked
import GoSem.Claim
import GoSem.ClaimJoined
import GoSem.ClaimMapViews
import Derived.JoinedTies
import Derived.KernelRfl
namespace Go.Proofs.Qxb6000533a
/- THE CELL 'sum', in the pinned program and in every row, IS THE sha256 OF THE DUMP (.gsa) THAT Qxb6000533aProg.lean LOADS. Nothing in Lean hashes anything: it is a label: what it is worth is what the hold of that sum in a sandbox is worth. -/
noncomputable def Try.pinned : Pinned := { name := "qxb6000533a", sum := "bd0a4ecac51931c4001c159978a044c7740169e38f1c8da31aa4cdb8c8ee5d3b", checked := Try.checked }
namespace Rows
def none {H : Type} : Left H := { results := [], args := [] }

/-- 'zzlaws_root_b1.FnSerialOrderKeepsPrefixAndListsEachFinishingCallOnce': WHATEVER THE INPUT: true; the input reads as it did. -/
def fnSerialOrderKeepsPrefixAndListsEachFinishingCallOnceSpec : ChangeSpec := { name := "fnSerialOrderKeepsPrefixAndListsEachFinishingCallOnce", fn := fun _ => fun
  | [d1, d2] => { results := [.lit (.bool true)], args := [d1, d2] }
  | _ => none }
def fnSerialOrderKeepsPrefixAndListsEachFinishingCallOnceRow : OpenClaim := { program := "qxb6000533a", sum := "bd0a4ecac51931c4001c159978a044c7740169e38f1c8da31aa4cdb8c8ee5d3b", func := "example.com/interlace/interlace/zzlaws_root_b1.FnSerialOrderKeepsPrefixAndListsEachFinishingCallOnce", spec := "fnSerialOrderKeepsPrefixAndListsEachFinishingCallOnce", apart := false }
def FnSerialOrderKeepsPrefixAndListsEachFinishingCallOnceSaid : Prop := fnSerialOrderKeepsPrefixAndListsEachFinishingCallOnceRow.holds Try.pinned (OpenSpec.ofChange fnSerialOrderKeepsPrefixAndListsEachFinishingCallOnceSpec)

/-- ITS FALSE NEIGHBOUR: 'it returns false'. Refute it at one input. -/
def fnSerialOrderKeepsPrefixAndListsEachFinishingCallOnceWrong : ChangeSpec := { name := "fnSerialOrderKeepsPrefixAndListsEachFinishingCallOnce", fn := fun _ => fun
  | [d1, d2] => { results := [.lit (.bool false)], args := [d1, d2] }
  | _ => none }
def FnSerialOrderKeepsPrefixAndListsEachFinishingCallOnceWrongFalsely : Prop := fnSerialOrderKeepsPrefixAndListsEachFinishingCallOnceRow.holds Try.pinned (OpenSpec.ofChange fnSerialOrderKeepsPrefixAndListsEachFinishingCallOnceWrong)

/-- 'zzlaws_root_b1.FnSerialOrderRanksAheadReversedByPositionAgain': WHATEVER THE INPUT: true; the input reads as it did. -/
def fnSerialOrderRanksAheadReversedByPositionAgainSpec : ChangeSpec := { name := "fnSerialOrderRanksAheadReversedByPositionAgain", fn := fun _ => fun
  | [d] => { results := [.lit (.bool true)], args := [d] }
  | _ => none }
def fnSerialOrderRanksAheadReversedByPositionAgainRow : OpenClaim := { program := "qxb6000533a", sum := "bd0a4ecac51931c4001c159978a044c7740169e38f1c8da31aa4cdb8c8ee5d3b", func := "example.com/interlace/interlace/zzlaws_root_b1.FnSerialOrderRanksAheadReversedByPositionAgain", spec := "fnSerialOrderRanksAheadReversedByPositionAgain", apart := false }
def FnSerialOrderRanksAheadReversedByPositionAgainSaid : Prop := fnSerialOrderRanksAheadReversedByPositionAgainRow.holds Try.pinned (OpenSpec.ofChange fnSerialOrderRanksAheadReversedByPositionAgainSpec)

/-- ITS FALSE NEIGHBOUR: 'it returns false'. Refute it at one input. -/
def fnSerialOrderRanksAheadReversedByPositionAgainWrong : ChangeSpec := { name := "fnSerialOrderRanksAheadReversedByPositionAgain", fn := fun _ => fun
  | [d] => { results := [.lit (.bool false)], args := [d] }
  | _ => none }
def FnSerialOrderRanksAheadReversedByPositionAgainWrongFalsely : Prop := fnSerialOrderRanksAheadReversedByPositionAgainRow.holds Try.pinned (OpenSpec.ofChange fnSerialOrderRanksAheadReversedByPositionAgainWrong)

/-- 'zzlaws_root_b1.FnCloneCallsEqualsItsInput': WHATEVER THE INPUT: true; the input reads as it did. -/
def fnCloneCallsEqualsItsInputSpec : ChangeSpec := { name := "fnCloneCallsEqualsItsInput", fn := fun _ => fun
  | [d1, d2, d3] => { results := [.lit (.bool true)], args := [d1, d2, d3] }
  | _ => none }
def fnCloneCallsEqualsItsInputRow : OpenClaim := { program := "qxb6000533a", sum := "bd0a4ecac51931c4001c159978a044c7740169e38f1c8da31aa4cdb8c8ee5d3b", func := "example.com/interlace/interlace/zzlaws_root_b1.FnCloneCallsEqualsItsInput", spec := "fnCloneCallsEqualsItsInput", apart := false }
def FnCloneCallsEqualsItsInputSaid : Prop := fnCloneCallsEqualsItsInputRow.holds Try.pinned (OpenSpec.ofChange fnCloneCallsEqualsItsInputSpec)

/-- ITS FALSE NEIGHBOUR: 'it returns false'. Refute it at one input. -/
def fnCloneCallsEqualsItsInputWrong : ChangeSpec := { name := "fnCloneCallsEqualsItsInput", fn := fun _ => fun
  | [d1, d2, d3] => { results := [.lit (.bool false)], args := [d1, d2, d3] }
  | _ => none }
def FnCloneCallsEqualsItsInputWrongFalsely : Prop := fnCloneCallsEqualsItsInputRow.holds Try.pinned (OpenSpec.ofChange fnCloneCallsEqualsItsInputWrong)

/-- 'zzlaws_root_b1.FnCloneCallsSharesNoArgsWithItsInput': WHATEVER THE INPUT: true; the input reads as it did. -/
def fnCloneCallsSharesNoArgsWithItsInputSpec : ChangeSpec := { name := "fnCloneCallsSharesNoArgsWithItsInput", fn := fun _ => fun
  | [d1, d2, d3] => { results := [.lit (.bool true)], args := [d1, d2, d3] }
  | _ => none }
def fnCloneCallsSharesNoArgsWithItsInputRow : OpenClaim := { program := "qxb6000533a", sum := "bd0a4ecac51931c4001c159978a044c7740169e38f1c8da31aa4cdb8c8ee5d3b", func := "example.com/interlace/interlace/zzlaws_root_b1.FnCloneCallsSharesNoArgsWithItsInput", spec := "fnCloneCallsSharesNoArgsWithItsInput", apart := false }
def FnCloneCallsSharesNoArgsWithItsInputSaid : Prop := fnCloneCallsSharesNoArgsWithItsInputRow.holds Try.pinned (OpenSpec.ofChange fnCloneCallsSharesNoArgsWithItsInputSpec)

/-- ITS FALSE NEIGHBOUR: 'it returns false'. Refute it at one input. -/
def fnCloneCallsSharesNoArgsWithItsInputWrong : ChangeSpec := { name := "fnCloneCallsSharesNoArgsWithItsInput", fn := fun _ => fun
  | [d1, d2, d3] => { results := [.lit (.bool false)], args := [d1, d2, d3] }
  | _ => none }
def FnCloneCallsSharesNoArgsWithItsInputWrongFalsely : Prop := fnCloneCallsSharesNoArgsWithItsInputRow.holds Try.pinned (OpenSpec.ofChange fnCloneCallsSharesNoArgsWithItsInputWrong)

/-- 'zzlaws_root_b1.FnMakeRowDecodesBackToKeyAndFields': WHATEVER THE INPUT: true; the input reads as it did. -/
def fnMakeRowDecodesBackToKeyAndFieldsSpec : ChangeSpec := { name := "fnMakeRowDecodesBackToKeyAndFields", fn := fun _ => fun
  | [d1, d2, d3, d4] => { results := [.lit (.bool true)], args := [d1, d2, d3, d4] }
  | _ => none }
def fnMakeRowDecodesBackToKeyAndFieldsRow : OpenClaim := { program := "qxb6000533a", sum := "bd0a4ecac51931c4001c159978a044c7740169e38f1c8da31aa4cdb8c8ee5d3b", func := "example.com/interlace/interlace/zzlaws_root_b1.FnMakeRowDecodesBackToKeyAndFields", spec := "fnMakeRowDecodesBackToKeyAndFields", inPlace := ["internal/abi.NoEscape", "internal/bytealg.MakeNoZero"], apart := false }
def FnMakeRowDecodesBackToKeyAndFieldsSaid : Prop := fnMakeRowDecodesBackToKeyAndFieldsRow.holds Try.pinned (OpenSpec.ofChange fnMakeRowDecodesBackToKeyAndFieldsSpec)

/-- ITS FALSE NEIGHBOUR: 'it returns false'. Refute it at one input. -/
def fnMakeRowDecodesBackToKeyAndFieldsWrong : ChangeSpec := { name := "fnMakeRowDecodesBackToKeyAndFields", fn := fun _ => fun
  | [d1, d2, d3, d4] => { results := [.lit (.bool false)], args := [d1, d2, d3, d4] }
  | _ => none }
def FnMakeRowDecodesBackToKeyAndFieldsWrongFalsely : Prop := fnMakeRowDecodesBackToKeyAndFieldsRow.holds Try.pinned (OpenSpec.ofChange fnMakeRowDecodesBackToKeyAndFieldsWrong)

/-- 'zzlaws_root_b1.FnMakeRowOfJoinedRecordsIsJoinOfRows': WHATEVER THE INPUT: true; the input reads as it did. -/
def fnMakeRowOfJoinedRecordsIsJoinOfRowsSpec : ChangeSpec := { name := "fnMakeRowOfJoinedRecordsIsJoinOfRows", fn := fun _ => fun
  | [d1, d2, d3, d4, d5, d6, d7] => { results := [.lit (.bool true)], args := [d1, d2, d3, d4, d5, d6, d7] }
  | _ => none }
def fnMakeRowOfJoinedRecordsIsJoinOfRowsRow : OpenClaim := { program := "qxb6000533a", sum := "bd0a4ecac51931c4001c159978a044c7740169e38f1c8da31aa4cdb8c8ee5d3b", func := "example.com/interlace/interlace/zzlaws_root_b1.FnMakeRowOfJoinedRecordsIsJoinOfRows", spec := "fnMakeRowOfJoinedRecordsIsJoinOfRows", inPlace := ["internal/abi.NoEscape", "internal/bytealg.MakeNoZero"], apart := false }
def FnMakeRowOfJoinedRecordsIsJoinOfRowsSaid : Prop := fnMakeRowOfJoinedRecordsIsJoinOfRowsRow.holds Try.pinned (OpenSpec.ofChange fnMakeRowOfJoinedRecordsIsJoinOfRowsSpec)

/-- ITS FALSE NEIGHBOUR: 'it returns false'. Refute it at one input. -/
def fnMakeRowOfJoinedRecordsIsJoinOfRowsWrong : ChangeSpec := { name := "fnMakeRowOfJoinedRecordsIsJoinOfRows", fn := fun _ => fun
  | [d1, d2, d3, d4, d5, d6, d7] => { results := [.lit (.bool false)], args := [d1, d2, d3, d4, d5, d6, d7] }
  | _ => none }
def FnMakeRowOfJoinedRecordsIsJoinOfRowsWrongFalsely : Prop := fnMakeRowOfJoinedRecordsIsJoinOfRowsRow.holds Try.pinned (OpenSpec.ofChange fnMakeRowOfJoinedRecordsIsJoinOfRowsWrong)

end Rows
end Go.Proofs.Qxb6000533a

/-
  No cell of these rows narrows 'for every input' (looked for: loops, veiled, ifaces, maps, wideKeys, modest, calm, conditions, laid).
  DERIVED. THE GIVEN ROWS OF THIS SEAT. 7 by the template 'for every input the law returns true; each argument reads behind the call as it read before'; 0 by the template 'total and deterministic' (their statements: Qxb6600319aTotals.lean).
  GIVEN WITH THE SEED: the statements are not yours to turn. If you find one false, say at which input.
  Laid BY PROGRAM, IN A SANDBOX (cutbox-rows.mjs): the forced cells as the released guide's own fill.sh prints them over the translation 3ae74011c2ee9542… (all of the seat's roots in one cut). By AI agents, Wed Nov 11 2026. No macro, syntax, notation, axiom, sorry.
-/
import Derived.Test.Qxb6600319aChecked
import GoSem.Claim
import GoSem.ClaimJoined
import GoSem.ClaimMapViews
import Derived.JoinedTies
import Derived.KernelRfl
namespace Go.Proofs.Qxb6600319a
/- THE CELL 'sum', in the pinned program and in every row, IS THE sha256 OF THE DUMP (.gsa) THAT Qxb6600319aProg.lean LOADS. Nothing in Lean hashes anything: it is a label: what it is worth is what the hold of that sum in a sandbox is worth. -/
noncomputable def Try.pinned : Pinned := { name := "qxb6600319a", sum := "3ae74011c2ee9542cce8cf2b9e0b8c9c384a1d99a677dc3a18e47d047f46d5be", checked := Try.checked }
namespace Rows
def none {H : Type} : Left H := { results := [], args := [] }

/-- 'zzlaws_root_b1.FnEnvVariableMatchesGrammar': WHATEVER THE INPUT: true; the input reads as it did. -/
def fnEnvVariableMatchesGrammarSpec : ChangeSpec := { name := "fnEnvVariableMatchesGrammar", fn := fun _ => fun
  | [d] => { results := [.lit (.bool true)], args := [d] }
  | _ => none }
def fnEnvVariableMatchesGrammarRow : OpenClaim := { program := "qxb6600319a", sum := "3ae74011c2ee9542cce8cf2b9e0b8c9c384a1d99a677dc3a18e47d047f46d5be", func := "example.com/tollgate/tollgate/zzlaws_root_b1.FnEnvVariableMatchesGrammar", spec := "fnEnvVariableMatchesGrammar", apart := false }
def FnEnvVariableMatchesGrammarSaid : Prop := fnEnvVariableMatchesGrammarRow.holds Try.pinned (OpenSpec.ofChange fnEnvVariableMatchesGrammarSpec)

/-- ITS FALSE NEIGHBOUR: 'it returns false'. Refute it at one input. -/
def fnEnvVariableMatchesGrammarWrong : ChangeSpec := { name := "fnEnvVariableMatchesGrammar", fn := fun _ => fun
  | [d] => { results := [.lit (.bool false)], args := [d] }
  | _ => none }
def FnEnvVariableMatchesGrammarWrongFalsely : Prop := fnEnvVariableMatchesGrammarRow.holds Try.pinned (OpenSpec.ofChange fnEnvVariableMatchesGrammarWrong)

/-- 'zzlaws_root_b1.FnEnvVariableDecidedByItsPrefix': WHATEVER THE INPUT: true; the input reads as it did. -/
def fnEnvVariableDecidedByItsPrefixSpec : ChangeSpec := { name := "fnEnvVariableDecidedByItsPrefix", fn := fun _ => fun
  | [d1, d2] => { results := [.lit (.bool true)], args := [d1, d2] }
  | _ => none }
def fnEnvVariableDecidedByItsPrefixRow : OpenClaim := { program := "qxb6600319a", sum := "3ae74011c2ee9542cce8cf2b9e0b8c9c384a1d99a677dc3a18e47d047f46d5be", func := "example.com/tollgate/tollgate/zzlaws_root_b1.FnEnvVariableDecidedByItsPrefix", spec := "fnEnvVariableDecidedByItsPrefix", apart := false }
def FnEnvVariableDecidedByItsPrefixSaid : Prop := fnEnvVariableDecidedByItsPrefixRow.holds Try.pinned (OpenSpec.ofChange fnEnvVariableDecidedByItsPrefixSpec)

/-- ITS FALSE NEIGHBOUR: 'it returns false'. Refute it at one input. -/
def fnEnvVariableDecidedByItsPrefixWrong : ChangeSpec := { name := "fnEnvVariableDecidedByItsPrefix", fn := fun _ => fun
  | [d1, d2] => { results := [.lit (.bool false)], args := [d1, d2] }
  | _ => none }
def FnEnvVariableDecidedByItsPrefixWrongFalsely : Prop := fnEnvVariableDecidedByItsPrefixRow.holds Try.pinned (OpenSpec.ofChange fnEnvVariableDecidedByItsPrefixWrong)

/-- 'zzlaws_root_b1.FnEnvVariableMeasuresName': WHATEVER THE INPUT: true; the input reads as it did. -/
def fnEnvVariableMeasuresNameSpec : ChangeSpec := { name := "fnEnvVariableMeasuresName", fn := fun _ => fun
  | [d1, d2] => { results := [.lit (.bool true)], args := [d1, d2] }
  | _ => none }
def fnEnvVariableMeasuresNameRow : OpenClaim := { program := "qxb6600319a", sum := "3ae74011c2ee9542cce8cf2b9e0b8c9c384a1d99a677dc3a18e47d047f46d5be", func := "example.com/tollgate/tollgate/zzlaws_root_b1.FnEnvVariableMeasuresName", spec := "fnEnvVariableMeasuresName", apart := false }
def FnEnvVariableMeasuresNameSaid : Prop := fnEnvVariableMeasuresNameRow.holds Try.pinned (OpenSpec.ofChange fnEnvVariableMeasuresNameSpec)

/-- ITS FALSE NEIGHBOUR: 'it returns false'. Refute it at one input. -/
def fnEnvVariableMeasuresNameWrong : ChangeSpec := { name := "fnEnvVariableMeasuresName", fn := fun _ => fun
  | [d1, d2] => { results := [.lit (.bool false)], args := [d1, d2] }
  | _ => none }
def FnEnvVariableMeasuresNameWrongFalsely : Prop := fnEnvVariableMeasuresNameRow.holds Try.pinned (OpenSpec.ofChange fnEnvVariableMeasuresNameWrong)

/-- 'zzlaws_root_b1.FnCommentEndsMatchOnePassScan': WHATEVER THE INPUT: true; the input reads as it did. -/
def fnCommentEndsMatchOnePassScanSpec : ChangeSpec := { name := "fnCommentEndsMatchOnePassScan", fn := fun _ => fun
  | [d] => { results := [.lit (.bool true)], args := [d] }
  | _ => none }
def fnCommentEndsMatchOnePassScanRow : OpenClaim := { program := "qxb6600319a", sum := "3ae74011c2ee9542cce8cf2b9e0b8c9c384a1d99a677dc3a18e47d047f46d5be", func := "example.com/tollgate/tollgate/zzlaws_root_b1.FnCommentEndsMatchOnePassScan", spec := "fnCommentEndsMatchOnePassScan", inPlace := ["internal/bytealg.IndexByteString"], apart := false }
def FnCommentEndsMatchOnePassScanSaid : Prop := fnCommentEndsMatchOnePassScanRow.holds Try.pinned (OpenSpec.ofChange fnCommentEndsMatchOnePassScanSpec)

/-- ITS FALSE NEIGHBOUR: 'it returns false'. Refute it at one input. -/
def fnCommentEndsMatchOnePassScanWrong : ChangeSpec := { name := "fnCommentEndsMatchOnePassScan", fn := fun _ => fun
  | [d] => { results := [.lit (.bool false)], args := [d] }
  | _ => none }
def FnCommentEndsMatchOnePassScanWrongFalsely : Prop := fnCommentEndsMatchOnePassScanRow.holds Try.pinned (OpenSpec.ofChange fnCommentEndsMatchOnePassScanWrong)

/-- 'zzlaws_root_b1.FnCommentEndsSplitAtNewline': WHATEVER THE INPUT: true; the input reads as it did. -/
def fnCommentEndsSplitAtNewlineSpec : ChangeSpec := { name := "fnCommentEndsSplitAtNewline", fn := fun _ => fun
  | [d1, d2] => { results := [.lit (.bool true)], args := [d1, d2] }
  | _ => none }
def fnCommentEndsSplitAtNewlineRow : OpenClaim := { program := "qxb6600319a", sum := "3ae74011c2ee9542cce8cf2b9e0b8c9c384a1d99a677dc3a18e47d047f46d5be", func := "example.com/tollgate/tollgate/zzlaws_root_b1.FnCommentEndsSplitAtNewline", spec := "fnCommentEndsSplitAtNewline", inPlace := ["internal/bytealg.IndexByteString"], apart := false }
def FnCommentEndsSplitAtNewlineSaid : Prop := fnCommentEndsSplitAtNewlineRow.holds Try.pinned (OpenSpec.ofChange fnCommentEndsSplitAtNewlineSpec)

/-- ITS FALSE NEIGHBOUR: 'it returns false'. Refute it at one input. -/
def fnCommentEndsSplitAtNewlineWrong : ChangeSpec := { name := "fnCommentEndsSplitAtNewline", fn := fun _ => fun
  | [d1, d2] => { results := [.lit (.bool false)], args := [d1, d2] }
  | _ => none }
def FnCommentEndsSplitAtNewlineWrongFalsely : Prop := fnCommentEndsSplitAtNewlineRow.holds Try.pinned (OpenSpec.ofChange fnCommentEndsSplitAtNewlineWrong)

/-- 'zzlaws_root_b1.FnNearestUntriedMatchesScan': WHATEVER THE INPUT: true; the input reads as it did. -/
def fnNearestUntriedMatchesScanSpec : ChangeSpec := { name := "fnNearestUntriedMatchesScan", fn := fun _ => fun
  | [d1, d2, d3, d4] => { results := [.lit (.bool true)], args := [d1, d2, d3, d4] }
  | _ => none }
def fnNearestUntriedMatchesScanRow : OpenClaim := { program := "qxb6600319a", sum := "3ae74011c2ee9542cce8cf2b9e0b8c9c384a1d99a677dc3a18e47d047f46d5be", func := "example.com/tollgate/tollgate/zzlaws_root_b1.FnNearestUntriedMatchesScan", spec := "fnNearestUntriedMatchesScan", apart := false }
def FnNearestUntriedMatchesScanSaid : Prop := fnNearestUntriedMatchesScanRow.holds Try.pinned (OpenSpec.ofChange fnNearestUntriedMatchesScanSpec)

/-- ITS FALSE NEIGHBOUR: 'it returns false'. Refute it at one input. -/
def fnNearestUntriedMatchesScanWrong : ChangeSpec := { name := "fnNearestUntriedMatchesScan", fn := fun _ => fun
  | [d1, d2, d3, d4] => { results := [.lit (.bool false)], args := [d1, d2, d3, d4] }
  | _ => none }
def FnNearestUntriedMatchesScanWrongFalsely : Prop := fnNearestUntriedMatchesScanRow.holds Try.pinned (OpenSpec.ofChange fnNearestUntriedMatchesScanWrong)

/-- 'zzlaws_root_b1.FnNearestUntriedVisitsEachOnce': WHATEVER THE INPUT: true; the input reads as it did. -/
def fnNearestUntriedVisitsEachOnceSpec : ChangeSpec := { name := "fnNearestUntriedVisitsEachOnce", fn := fun _ => fun
  | [d1, d2, d3, d4] => { results := [.lit (.bool true)], args := [d1, d2, d3, d4] }
  | _ => none }
def fnNearestUntriedVisitsEachOnceRow : OpenClaim := { program := "qxb6600319a", sum := "3ae74011c2ee9542cce8cf2b9e0b8c9c384a1d99a677dc3a18e47d047f46d5be", func := "example.com/tollgate/tollgate/zzlaws_root_b1.FnNearestUntriedVisitsEachOnce", spec := "fnNearestUntriedVisitsEachOnce", apart := false }
def FnNearestUntriedVisitsEachOnceSaid : Prop := fnNearestUntriedVisitsEachOnceRow.holds Try.pinned (OpenSpec.ofChange fnNearestUntriedVisitsEachOnceSpec)

/-- ITS FALSE NEIGHBOUR: 'it returns false'. Refute it at one input. -/
def fnNearestUntriedVisitsEachOnceWrong : ChangeSpec := { name := "fnNearestUntriedVisitsEachOnce", fn := fun _ => fun
  | [d1, d2, d3, d4] => { results := [.lit (.bool false)], args := [d1, d2, d3, d4] }
  | _ => none }
def FnNearestUntriedVisitsEachOnceWrongFalsely : Prop := fnNearestUntriedVisitsEachOnceRow.holds Try.pinned (OpenSpec.ofChange fnNearestUntriedVisitsEachOnceWrong)

end Rows
end Go.Proofs.Qxb6600319a

/-
  No cell of these rows narrows 'for every input' (looked for: loops, veiled, ifaces, maps, wideKeys, modest, calm, conditions, laid).
  DERIVED. THE GIVEN ROWS OF THIS SEAT. 3 by the template 'for every input the law returns true; each argument reads behind the call as it read before'; 0 by the template 'total and deterministic' (their statements: Qxb6600307aTotals.lean).
  GIVEN WITH THE SEED: the statements are not yours to turn. If you find one false, say at which input.
  Laid BY PROGRAM, IN A SANDBOX (cutbox-rows.mjs): the forced cells as the released guide's own fill.sh prints them over the translation d7acccb7f4a2162a… (all of the seat's roots in one cut). By AI agents, Wed Nov 11 2026. No macro, syntax, notation, axiom, sorry.
-/
import Derived.Test.Qxb6600307aChecked
import GoSem.Claim
import GoSem.ClaimJoined
import GoSem.ClaimMapViews
import Derived.JoinedTies
import Derived.KernelRfl
namespace Go.Proofs.Qxb6600307a
/- THE CELL 'sum', in the pinned program and in every row, IS THE sha256 OF THE DUMP (.gsa) THAT Qxb6600307aProg.lean LOADS. Nothing in Lean hashes anything: it is a label: what it is worth is what the hold of that sum in a sandbox is worth. -/
noncomputable def Try.pinned : Pinned := { name := "qxb6600307a", sum := "d7acccb7f4a2162a3d1aa802ea2795518b52e8de376554635557cfd94a94f0ed", checked := Try.checked }
namespace Rows
def none {H : Type} : Left H := { results := [], args := [] }

/-- 'zzlaws_internal_warc_b1.FnQuotedStringInvertsQuoting': WHATEVER THE INPUT: true; the input reads as it did. -/
def fnQuotedStringInvertsQuotingSpec : ChangeSpec := { name := "fnQuotedStringInvertsQuoting", fn := fun _ => fun
  | [d1, d2, d3, d4] => { results := [.lit (.bool true)], args := [d1, d2, d3, d4] }
  | _ => none }
def fnQuotedStringInvertsQuotingRow : OpenClaim := { program := "qxb6600307a", sum := "d7acccb7f4a2162a3d1aa802ea2795518b52e8de376554635557cfd94a94f0ed", func := "example.com/gleaner/gleaner/zzlaws_internal_warc_b1.FnQuotedStringInvertsQuoting", spec := "fnQuotedStringInvertsQuoting", inPlace := ["internal/abi.NoEscape"], apart := false }
def FnQuotedStringInvertsQuotingSaid : Prop := fnQuotedStringInvertsQuotingRow.holds Try.pinned (OpenSpec.ofChange fnQuotedStringInvertsQuotingSpec)

/-- ITS FALSE NEIGHBOUR: 'it returns false'. Refute it at one input. -/
def fnQuotedStringInvertsQuotingWrong : ChangeSpec := { name := "fnQuotedStringInvertsQuoting", fn := fun _ => fun
  | [d1, d2, d3, d4] => { results := [.lit (.bool false)], args := [d1, d2, d3, d4] }
  | _ => none }
def FnQuotedStringInvertsQuotingWrongFalsely : Prop := fnQuotedStringInvertsQuotingRow.holds Try.pinned (OpenSpec.ofChange fnQuotedStringInvertsQuotingWrong)

/-- 'zzlaws_internal_warc_b1.FnQuotedStringUnclosedReadsToEnd': WHATEVER THE INPUT: true; the input reads as it did. -/
def fnQuotedStringUnclosedReadsToEndSpec : ChangeSpec := { name := "fnQuotedStringUnclosedReadsToEnd", fn := fun _ => fun
  | [d1, d2, d3, d4] => { results := [.lit (.bool true)], args := [d1, d2, d3, d4] }
  | _ => none }
def fnQuotedStringUnclosedReadsToEndRow : OpenClaim := { program := "qxb6600307a", sum := "d7acccb7f4a2162a3d1aa802ea2795518b52e8de376554635557cfd94a94f0ed", func := "example.com/gleaner/gleaner/zzlaws_internal_warc_b1.FnQuotedStringUnclosedReadsToEnd", spec := "fnQuotedStringUnclosedReadsToEnd", inPlace := ["internal/abi.NoEscape"], apart := false }
def FnQuotedStringUnclosedReadsToEndSaid : Prop := fnQuotedStringUnclosedReadsToEndRow.holds Try.pinned (OpenSpec.ofChange fnQuotedStringUnclosedReadsToEndSpec)

/-- ITS FALSE NEIGHBOUR: 'it returns false'. Refute it at one input. -/
def fnQuotedStringUnclosedReadsToEndWrong : ChangeSpec := { name := "fnQuotedStringUnclosedReadsToEnd", fn := fun _ => fun
  | [d1, d2, d3, d4] => { results := [.lit (.bool false)], args := [d1, d2, d3, d4] }
  | _ => none }
def FnQuotedStringUnclosedReadsToEndWrongFalsely : Prop := fnQuotedStringUnclosedReadsToEndRow.holds Try.pinned (OpenSpec.ofChange fnQuotedStringUnclosedReadsToEndWrong)

/-- 'zzlaws_internal_warc_b1.FnQuotedStringStaysInBounds': WHATEVER THE INPUT: true; the input reads as it did. -/
def fnQuotedStringStaysInBoundsSpec : ChangeSpec := { name := "fnQuotedStringStaysInBounds", fn := fun _ => fun
  | [d1, d2] => { results := [.lit (.bool true)], args := [d1, d2] }
  | _ => none }
def fnQuotedStringStaysInBoundsRow : OpenClaim := { program := "qxb6600307a", sum := "d7acccb7f4a2162a3d1aa802ea2795518b52e8de376554635557cfd94a94f0ed", func := "example.com/gleaner/gleaner/zzlaws_internal_warc_b1.FnQuotedStringStaysInBounds", spec := "fnQuotedStringStaysInBounds", inPlace := ["internal/abi.NoEscape"], apart := false }
def FnQuotedStringStaysInBoundsSaid : Prop := fnQuotedStringStaysInBoundsRow.holds Try.pinned (OpenSpec.ofChange fnQuotedStringStaysInBoundsSpec)

/-- ITS FALSE NEIGHBOUR: 'it returns false'. Refute it at one input. -/
def fnQuotedStringStaysInBoundsWrong : ChangeSpec := { name := "fnQuotedStringStaysInBounds", fn := fun _ => fun
  | [d1, d2] => { results := [.lit (.bool false)], args := [d1, d2] }
  | _ => none }
def FnQuotedStringStaysInBoundsWrongFalsely : Prop := fnQuotedStringStaysInBoundsRow.holds Try.pinned (OpenSpec.ofChange fnQuotedStringStaysInBoundsWrong)

end Rows
end Go.Proofs.Qxb6600307a

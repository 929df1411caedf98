/-
  No cell of these rows narrows 'for every input' (looked for: loops, veiled, ifaces, maps, wideKeys, modest, calm, conditions, laid).
  DERIVED. THE GIVEN ROWS OF THIS SEAT. 6 by the template 'for every input the law returns true; each argument reads behind the call as it read before'; 0 by the template 'total and deterministic' (their statements: Qxb6600276aTotals.lean).
  GIVEN WITH THE SEED: the statements are not yours to turn. If you find one false, say at which input.
  Laid BY PROGRAM, IN A SANDBOX (cutbox-rows.mjs): the forced cells as the released guide's own fill.sh prints them over the translation b4f7fa94e59990d8… (all of the seat's roots in one cut). By AI agents, Wed Nov 11 2026. No macro, syntax, notation, axiom, sorry.
-/
import Derived.Test.Qxb6600276aChecked
import GoSem.Claim
import GoSem.ClaimJoined
import GoSem.ClaimMapViews
import Derived.JoinedTies
import Derived.KernelRfl
namespace Go.Proofs.Qxb6600276a
/- THE CELL 'sum', in the pinned program and in every row, IS THE sha256 OF THE DUMP (.gsa) THAT Qxb6600276aProg.lean LOADS. Nothing in Lean hashes anything: it is a label: what it is worth is what the hold of that sum in a sandbox is worth. -/
noncomputable def Try.pinned : Pinned := { name := "qxb6600276a", sum := "b4f7fa94e59990d8de276f5639da1b19b877e9dbf76ecf099f43bafbe3acbd61", checked := Try.checked }
namespace Rows
def none {H : Type} : Left H := { results := [], args := [] }

/-- 'zzlaws_internal_jcs_b1.FnLessUnitsMatchesBigEndianStringOrder': WHATEVER THE INPUT: true; the input reads as it did. -/
def fnLessUnitsMatchesBigEndianStringOrderSpec : ChangeSpec := { name := "fnLessUnitsMatchesBigEndianStringOrder", fn := fun _ => fun
  | [d1, d2] => { results := [.lit (.bool true)], args := [d1, d2] }
  | _ => none }
def fnLessUnitsMatchesBigEndianStringOrderRow : OpenClaim := { program := "qxb6600276a", sum := "b4f7fa94e59990d8de276f5639da1b19b877e9dbf76ecf099f43bafbe3acbd61", func := "example.com/toolbooth/toolbooth/zzlaws_internal_jcs_b1.FnLessUnitsMatchesBigEndianStringOrder", spec := "fnLessUnitsMatchesBigEndianStringOrder", apart := false }
def FnLessUnitsMatchesBigEndianStringOrderSaid : Prop := fnLessUnitsMatchesBigEndianStringOrderRow.holds Try.pinned (OpenSpec.ofChange fnLessUnitsMatchesBigEndianStringOrderSpec)

/-- ITS FALSE NEIGHBOUR: 'it returns false'. Refute it at one input. -/
def fnLessUnitsMatchesBigEndianStringOrderWrong : ChangeSpec := { name := "fnLessUnitsMatchesBigEndianStringOrder", fn := fun _ => fun
  | [d1, d2] => { results := [.lit (.bool false)], args := [d1, d2] }
  | _ => none }
def FnLessUnitsMatchesBigEndianStringOrderWrongFalsely : Prop := fnLessUnitsMatchesBigEndianStringOrderRow.holds Try.pinned (OpenSpec.ofChange fnLessUnitsMatchesBigEndianStringOrderWrong)

/-- 'zzlaws_internal_jcs_b1.FnLessUnitsStrictTotalOrder': WHATEVER THE INPUT: true; the input reads as it did. -/
def fnLessUnitsStrictTotalOrderSpec : ChangeSpec := { name := "fnLessUnitsStrictTotalOrder", fn := fun _ => fun
  | [d1, d2] => { results := [.lit (.bool true)], args := [d1, d2] }
  | _ => none }
def fnLessUnitsStrictTotalOrderRow : OpenClaim := { program := "qxb6600276a", sum := "b4f7fa94e59990d8de276f5639da1b19b877e9dbf76ecf099f43bafbe3acbd61", func := "example.com/toolbooth/toolbooth/zzlaws_internal_jcs_b1.FnLessUnitsStrictTotalOrder", spec := "fnLessUnitsStrictTotalOrder", apart := false }
def FnLessUnitsStrictTotalOrderSaid : Prop := fnLessUnitsStrictTotalOrderRow.holds Try.pinned (OpenSpec.ofChange fnLessUnitsStrictTotalOrderSpec)

/-- ITS FALSE NEIGHBOUR: 'it returns false'. Refute it at one input. -/
def fnLessUnitsStrictTotalOrderWrong : ChangeSpec := { name := "fnLessUnitsStrictTotalOrder", fn := fun _ => fun
  | [d1, d2] => { results := [.lit (.bool false)], args := [d1, d2] }
  | _ => none }
def FnLessUnitsStrictTotalOrderWrongFalsely : Prop := fnLessUnitsStrictTotalOrderRow.holds Try.pinned (OpenSpec.ofChange fnLessUnitsStrictTotalOrderWrong)

/-- 'zzlaws_internal_jcs_b1.FnLessUnitsTransitive': WHATEVER THE INPUT: true; the input reads as it did. -/
def fnLessUnitsTransitiveSpec : ChangeSpec := { name := "fnLessUnitsTransitive", fn := fun _ => fun
  | [d1, d2, d3] => { results := [.lit (.bool true)], args := [d1, d2, d3] }
  | _ => none }
def fnLessUnitsTransitiveRow : OpenClaim := { program := "qxb6600276a", sum := "b4f7fa94e59990d8de276f5639da1b19b877e9dbf76ecf099f43bafbe3acbd61", func := "example.com/toolbooth/toolbooth/zzlaws_internal_jcs_b1.FnLessUnitsTransitive", spec := "fnLessUnitsTransitive", apart := false }
def FnLessUnitsTransitiveSaid : Prop := fnLessUnitsTransitiveRow.holds Try.pinned (OpenSpec.ofChange fnLessUnitsTransitiveSpec)

/-- ITS FALSE NEIGHBOUR: 'it returns false'. Refute it at one input. -/
def fnLessUnitsTransitiveWrong : ChangeSpec := { name := "fnLessUnitsTransitive", fn := fun _ => fun
  | [d1, d2, d3] => { results := [.lit (.bool false)], args := [d1, d2, d3] }
  | _ => none }
def FnLessUnitsTransitiveWrongFalsely : Prop := fnLessUnitsTransitiveRow.holds Try.pinned (OpenSpec.ofChange fnLessUnitsTransitiveWrong)

/-- 'zzlaws_internal_jcs_b1.FnAppendStringReadsBackCanonical': WHATEVER THE INPUT: true; the input reads as it did. -/
def fnAppendStringReadsBackCanonicalSpec : ChangeSpec := { name := "fnAppendStringReadsBackCanonical", fn := fun _ => fun
  | [d1, d2] => { results := [.lit (.bool true)], args := [d1, d2] }
  | _ => none }
def fnAppendStringReadsBackCanonicalRow : OpenClaim := { program := "qxb6600276a", sum := "b4f7fa94e59990d8de276f5639da1b19b877e9dbf76ecf099f43bafbe3acbd61", func := "example.com/toolbooth/toolbooth/zzlaws_internal_jcs_b1.FnAppendStringReadsBackCanonical", spec := "fnAppendStringReadsBackCanonical", apart := false }
def FnAppendStringReadsBackCanonicalSaid : Prop := fnAppendStringReadsBackCanonicalRow.holds Try.pinned (OpenSpec.ofChange fnAppendStringReadsBackCanonicalSpec)

/-- ITS FALSE NEIGHBOUR: 'it returns false'. Refute it at one input. -/
def fnAppendStringReadsBackCanonicalWrong : ChangeSpec := { name := "fnAppendStringReadsBackCanonical", fn := fun _ => fun
  | [d1, d2] => { results := [.lit (.bool false)], args := [d1, d2] }
  | _ => none }
def FnAppendStringReadsBackCanonicalWrongFalsely : Prop := fnAppendStringReadsBackCanonicalRow.holds Try.pinned (OpenSpec.ofChange fnAppendStringReadsBackCanonicalWrong)

/-- 'zzlaws_internal_jcs_b1.FnAppendStringSplitsOverConcatenation': WHATEVER THE INPUT: true; the input reads as it did. -/
def fnAppendStringSplitsOverConcatenationSpec : ChangeSpec := { name := "fnAppendStringSplitsOverConcatenation", fn := fun _ => fun
  | [d1, d2, d3] => { results := [.lit (.bool true)], args := [d1, d2, d3] }
  | _ => none }
def fnAppendStringSplitsOverConcatenationRow : OpenClaim := { program := "qxb6600276a", sum := "b4f7fa94e59990d8de276f5639da1b19b877e9dbf76ecf099f43bafbe3acbd61", func := "example.com/toolbooth/toolbooth/zzlaws_internal_jcs_b1.FnAppendStringSplitsOverConcatenation", spec := "fnAppendStringSplitsOverConcatenation", apart := false }
def FnAppendStringSplitsOverConcatenationSaid : Prop := fnAppendStringSplitsOverConcatenationRow.holds Try.pinned (OpenSpec.ofChange fnAppendStringSplitsOverConcatenationSpec)

/-- ITS FALSE NEIGHBOUR: 'it returns false'. Refute it at one input. -/
def fnAppendStringSplitsOverConcatenationWrong : ChangeSpec := { name := "fnAppendStringSplitsOverConcatenation", fn := fun _ => fun
  | [d1, d2, d3] => { results := [.lit (.bool false)], args := [d1, d2, d3] }
  | _ => none }
def FnAppendStringSplitsOverConcatenationWrongFalsely : Prop := fnAppendStringSplitsOverConcatenationRow.holds Try.pinned (OpenSpec.ofChange fnAppendStringSplitsOverConcatenationWrong)

/-- 'zzlaws_internal_jcs_b1.FnAppendStringLengthBounds': WHATEVER THE INPUT: true; the input reads as it did. -/
def fnAppendStringLengthBoundsSpec : ChangeSpec := { name := "fnAppendStringLengthBounds", fn := fun _ => fun
  | [d1, d2] => { results := [.lit (.bool true)], args := [d1, d2] }
  | _ => none }
def fnAppendStringLengthBoundsRow : OpenClaim := { program := "qxb6600276a", sum := "b4f7fa94e59990d8de276f5639da1b19b877e9dbf76ecf099f43bafbe3acbd61", func := "example.com/toolbooth/toolbooth/zzlaws_internal_jcs_b1.FnAppendStringLengthBounds", spec := "fnAppendStringLengthBounds", apart := false }
def FnAppendStringLengthBoundsSaid : Prop := fnAppendStringLengthBoundsRow.holds Try.pinned (OpenSpec.ofChange fnAppendStringLengthBoundsSpec)

/-- ITS FALSE NEIGHBOUR: 'it returns false'. Refute it at one input. -/
def fnAppendStringLengthBoundsWrong : ChangeSpec := { name := "fnAppendStringLengthBounds", fn := fun _ => fun
  | [d1, d2] => { results := [.lit (.bool false)], args := [d1, d2] }
  | _ => none }
def FnAppendStringLengthBoundsWrongFalsely : Prop := fnAppendStringLengthBoundsRow.holds Try.pinned (OpenSpec.ofChange fnAppendStringLengthBoundsWrong)

end Rows
end Go.Proofs.Qxb6600276a

/-
  No cell of these rows narrows 'for every input' (looked for: loops, veiled, ifaces, maps, wideKeys, modest, calm, conditions, laid).
  DERIVED. THE GIVEN ROWS OF THIS SEAT. 6 by the template 'for every input the law returns true; each argument reads behind the call as it read before'; 0 by the template 'total and deterministic' (their statements: Qxb6600228aTotals.lean).
  GIVEN WITH THE SEED: the statements are not yours to turn. If you find one false, say at which input.
  Laid BY PROGRAM, IN A SANDBOX (cutbox-rows.mjs): the forced cells as the released guide's own fill.sh prints them over the translation c01e3c062d2ac4c5… (all of the seat's roots in one cut). By AI agents, Wed Nov 11 2026. No macro, syntax, notation, axiom, sorry.
-/
import Derived.Test.Qxb6600228aChecked
import GoSem.Claim
import GoSem.ClaimJoined
import GoSem.ClaimMapViews
import Derived.JoinedTies
import Derived.KernelRfl
namespace Go.Proofs.Qxb6600228a
/- THE CELL 'sum', in the pinned program and in every row, IS THE sha256 OF THE DUMP (.gsa) THAT Qxb6600228aProg.lean LOADS. Nothing in Lean hashes anything: it is a label: what it is worth is what the hold of that sum in a sandbox is worth. -/
noncomputable def Try.pinned : Pinned := { name := "qxb6600228a", sum := "c01e3c062d2ac4c5c0a53c8d07aff0c22f0ff85694c8404acaa583a9560609a3", checked := Try.checked }
namespace Rows
def none {H : Type} : Left H := { results := [], args := [] }

/-- 'zzlaws_input_b1.FnGb18030LengthBoundedAndWhole': WHATEVER THE INPUT: true; the input reads as it did. -/
def fnGb18030LengthBoundedAndWholeSpec : ChangeSpec := { name := "fnGb18030LengthBoundedAndWhole", fn := fun _ => fun
  | [d] => { results := [.lit (.bool true)], args := [d] }
  | _ => none }
def fnGb18030LengthBoundedAndWholeRow : OpenClaim := { program := "qxb6600228a", sum := "c01e3c062d2ac4c5c0a53c8d07aff0c22f0ff85694c8404acaa583a9560609a3", func := "example.com/tuoguan/tuoguan/zzlaws_input_b1.FnGb18030LengthBoundedAndWhole", spec := "fnGb18030LengthBoundedAndWhole", unfollowed := true, recurses := true, apart := false }
def FnGb18030LengthBoundedAndWholeSaid : Prop := fnGb18030LengthBoundedAndWholeRow.holds Try.pinned (OpenSpec.ofChange fnGb18030LengthBoundedAndWholeSpec)

/-- ITS FALSE NEIGHBOUR: 'it returns false'. Refute it at one input. -/
def fnGb18030LengthBoundedAndWholeWrong : ChangeSpec := { name := "fnGb18030LengthBoundedAndWhole", fn := fun _ => fun
  | [d] => { results := [.lit (.bool false)], args := [d] }
  | _ => none }
def FnGb18030LengthBoundedAndWholeWrongFalsely : Prop := fnGb18030LengthBoundedAndWholeRow.holds Try.pinned (OpenSpec.ofChange fnGb18030LengthBoundedAndWholeWrong)

/-- 'zzlaws_input_b1.FnGb18030LengthIgnoresWhatFollows': WHATEVER THE INPUT: true; the input reads as it did. -/
def fnGb18030LengthIgnoresWhatFollowsSpec : ChangeSpec := { name := "fnGb18030LengthIgnoresWhatFollows", fn := fun _ => fun
  | [d1, d2] => { results := [.lit (.bool true)], args := [d1, d2] }
  | _ => none }
def fnGb18030LengthIgnoresWhatFollowsRow : OpenClaim := { program := "qxb6600228a", sum := "c01e3c062d2ac4c5c0a53c8d07aff0c22f0ff85694c8404acaa583a9560609a3", func := "example.com/tuoguan/tuoguan/zzlaws_input_b1.FnGb18030LengthIgnoresWhatFollows", spec := "fnGb18030LengthIgnoresWhatFollows", unfollowed := true, recurses := true, apart := false }
def FnGb18030LengthIgnoresWhatFollowsSaid : Prop := fnGb18030LengthIgnoresWhatFollowsRow.holds Try.pinned (OpenSpec.ofChange fnGb18030LengthIgnoresWhatFollowsSpec)

/-- ITS FALSE NEIGHBOUR: 'it returns false'. Refute it at one input. -/
def fnGb18030LengthIgnoresWhatFollowsWrong : ChangeSpec := { name := "fnGb18030LengthIgnoresWhatFollows", fn := fun _ => fun
  | [d1, d2] => { results := [.lit (.bool false)], args := [d1, d2] }
  | _ => none }
def FnGb18030LengthIgnoresWhatFollowsWrongFalsely : Prop := fnGb18030LengthIgnoresWhatFollowsRow.holds Try.pinned (OpenSpec.ofChange fnGb18030LengthIgnoresWhatFollowsWrong)

/-- 'zzlaws_input_b1.FnGb18030TwoByteClosedForm': WHATEVER THE INPUT: true; the input reads as it did. -/
def fnGb18030TwoByteClosedFormSpec : ChangeSpec := { name := "fnGb18030TwoByteClosedForm", fn := fun _ => fun
  | [d] => { results := [.lit (.bool true)], args := [d] }
  | _ => none }
def fnGb18030TwoByteClosedFormRow : OpenClaim := { program := "qxb6600228a", sum := "c01e3c062d2ac4c5c0a53c8d07aff0c22f0ff85694c8404acaa583a9560609a3", func := "example.com/tuoguan/tuoguan/zzlaws_input_b1.FnGb18030TwoByteClosedForm", spec := "fnGb18030TwoByteClosedForm", apart := false }
def FnGb18030TwoByteClosedFormSaid : Prop := fnGb18030TwoByteClosedFormRow.holds Try.pinned (OpenSpec.ofChange fnGb18030TwoByteClosedFormSpec)

/-- ITS FALSE NEIGHBOUR: 'it returns false'. Refute it at one input. -/
def fnGb18030TwoByteClosedFormWrong : ChangeSpec := { name := "fnGb18030TwoByteClosedForm", fn := fun _ => fun
  | [d] => { results := [.lit (.bool false)], args := [d] }
  | _ => none }
def FnGb18030TwoByteClosedFormWrongFalsely : Prop := fnGb18030TwoByteClosedFormRow.holds Try.pinned (OpenSpec.ofChange fnGb18030TwoByteClosedFormWrong)

/-- 'zzlaws_input_b1.FnGb18030TwoByteStrictlyAscending': WHATEVER THE INPUT: true; the input reads as it did. -/
def fnGb18030TwoByteStrictlyAscendingSpec : ChangeSpec := { name := "fnGb18030TwoByteStrictlyAscending", fn := fun _ => fun
  | [d] => { results := [.lit (.bool true)], args := [d] }
  | _ => none }
def fnGb18030TwoByteStrictlyAscendingRow : OpenClaim := { program := "qxb6600228a", sum := "c01e3c062d2ac4c5c0a53c8d07aff0c22f0ff85694c8404acaa583a9560609a3", func := "example.com/tuoguan/tuoguan/zzlaws_input_b1.FnGb18030TwoByteStrictlyAscending", spec := "fnGb18030TwoByteStrictlyAscending", apart := false }
def FnGb18030TwoByteStrictlyAscendingSaid : Prop := fnGb18030TwoByteStrictlyAscendingRow.holds Try.pinned (OpenSpec.ofChange fnGb18030TwoByteStrictlyAscendingSpec)

/-- ITS FALSE NEIGHBOUR: 'it returns false'. Refute it at one input. -/
def fnGb18030TwoByteStrictlyAscendingWrong : ChangeSpec := { name := "fnGb18030TwoByteStrictlyAscending", fn := fun _ => fun
  | [d] => { results := [.lit (.bool false)], args := [d] }
  | _ => none }
def FnGb18030TwoByteStrictlyAscendingWrongFalsely : Prop := fnGb18030TwoByteStrictlyAscendingRow.holds Try.pinned (OpenSpec.ofChange fnGb18030TwoByteStrictlyAscendingWrong)

/-- 'zzlaws_input_b1.FnGb18030TwoByteListIsExactlyLengthTwo': WHATEVER THE INPUT: true; the input reads as it did. -/
def fnGb18030TwoByteListIsExactlyLengthTwoSpec : ChangeSpec := { name := "fnGb18030TwoByteListIsExactlyLengthTwo", fn := fun _ => fun
  | [d1, d2, d3] => { results := [.lit (.bool true)], args := [d1, d2, d3] }
  | _ => none }
def fnGb18030TwoByteListIsExactlyLengthTwoRow : OpenClaim := { program := "qxb6600228a", sum := "c01e3c062d2ac4c5c0a53c8d07aff0c22f0ff85694c8404acaa583a9560609a3", func := "example.com/tuoguan/tuoguan/zzlaws_input_b1.FnGb18030TwoByteListIsExactlyLengthTwo", spec := "fnGb18030TwoByteListIsExactlyLengthTwo", unfollowed := true, recurses := true, apart := false }
def FnGb18030TwoByteListIsExactlyLengthTwoSaid : Prop := fnGb18030TwoByteListIsExactlyLengthTwoRow.holds Try.pinned (OpenSpec.ofChange fnGb18030TwoByteListIsExactlyLengthTwoSpec)

/-- ITS FALSE NEIGHBOUR: 'it returns false'. Refute it at one input. -/
def fnGb18030TwoByteListIsExactlyLengthTwoWrong : ChangeSpec := { name := "fnGb18030TwoByteListIsExactlyLengthTwo", fn := fun _ => fun
  | [d1, d2, d3] => { results := [.lit (.bool false)], args := [d1, d2, d3] }
  | _ => none }
def FnGb18030TwoByteListIsExactlyLengthTwoWrongFalsely : Prop := fnGb18030TwoByteListIsExactlyLengthTwoRow.holds Try.pinned (OpenSpec.ofChange fnGb18030TwoByteListIsExactlyLengthTwoWrong)

/-- 'zzlaws_input_b1.FnRowValueKeptWhenAColumnIsAdded': WHATEVER THE INPUT: true; the input reads as it did. -/
def fnRowValueKeptWhenAColumnIsAddedSpec : ChangeSpec := { name := "fnRowValueKeptWhenAColumnIsAdded", fn := fun _ => fun
  | [d1, d2, d3, d4, d5, d6, d7, d8] => { results := [.lit (.bool true)], args := [d1, d2, d3, d4, d5, d6, d7, d8] }
  | _ => none }
def fnRowValueKeptWhenAColumnIsAddedRow : OpenClaim := { program := "qxb6600228a", sum := "c01e3c062d2ac4c5c0a53c8d07aff0c22f0ff85694c8404acaa583a9560609a3", func := "example.com/tuoguan/tuoguan/zzlaws_input_b1.FnRowValueKeptWhenAColumnIsAdded", spec := "fnRowValueKeptWhenAColumnIsAdded", apart := false }
def FnRowValueKeptWhenAColumnIsAddedSaid : Prop := fnRowValueKeptWhenAColumnIsAddedRow.holds Try.pinned (OpenSpec.ofChange fnRowValueKeptWhenAColumnIsAddedSpec)

/-- ITS FALSE NEIGHBOUR: 'it returns false'. Refute it at one input. -/
def fnRowValueKeptWhenAColumnIsAddedWrong : ChangeSpec := { name := "fnRowValueKeptWhenAColumnIsAdded", fn := fun _ => fun
  | [d1, d2, d3, d4, d5, d6, d7, d8] => { results := [.lit (.bool false)], args := [d1, d2, d3, d4, d5, d6, d7, d8] }
  | _ => none }
def FnRowValueKeptWhenAColumnIsAddedWrongFalsely : Prop := fnRowValueKeptWhenAColumnIsAddedRow.holds Try.pinned (OpenSpec.ofChange fnRowValueKeptWhenAColumnIsAddedWrong)

end Rows
end Go.Proofs.Qxb6600228a

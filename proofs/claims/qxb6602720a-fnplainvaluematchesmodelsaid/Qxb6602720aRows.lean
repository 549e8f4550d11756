/-
  No cell of these rows narrows 'for every input' (looked for: loops, veiled, ifaces, maps, wideKeys, modest, calm, conditions, laid).
  DERIVED. THE GIVEN ROWS OF THIS SEAT. 9 by the template 'for every input the law returns true; each argument reads behind the call as it read before'; 0 by the template 'total and deterministic' (their statements: Qxb6602720aTotals.lean).
  GIVEN WITH THE SEED: the statements are not yours to turn. If you find one false, say at which input.
  Laid BY PROGRAM, IN A SANDBOX (cutbox-rows.mjs): the forced cells as the released guide's own fill.sh prints them over the translation 4f16e2823aa8796b… (all of the seat's roots in one cut). By AI agents, Wed Nov 11 2026. No macro, syntax, notation, axiom, sorry.
-/
import Derived.Test.Qxb6602720aChecked
import GoSem.Claim
import GoSem.ClaimJoined
import GoSem.ClaimMapViews
import Derived.JoinedTies
import Derived.KernelRfl
namespace Go.Proofs.Qxb6602720a
/- THE CELL 'sum', in the pinned program and in every row, IS THE sha256 OF THE DUMP (.gsa) THAT Qxb6602720aProg.lean LOADS. Nothing in Lean hashes anything: it is a label: what it is worth is what the hold of that sum in a sandbox is worth. -/
noncomputable def Try.pinned : Pinned := { name := "qxb6602720a", sum := "4f16e2823aa8796b3a99de4a104d0d5d5279d2ef236a4ac0486c2af7a0a51ecb", checked := Try.checked }
namespace Rows
def none {H : Type} : Left H := { results := [], args := [] }

/-- 'zzlaws_jsonobj_b1.FnPlainStringMatchesModel': WHATEVER THE INPUT: true; the input reads as it did. -/
def fnPlainStringMatchesModelSpec : ChangeSpec := { name := "fnPlainStringMatchesModel", fn := fun _ => fun
  | [d1, d2] => { results := [.lit (.bool true)], args := [d1, d2] }
  | _ => none }
def fnPlainStringMatchesModelRow : OpenClaim := { program := "qxb6602720a", sum := "4f16e2823aa8796b3a99de4a104d0d5d5279d2ef236a4ac0486c2af7a0a51ecb", func := "example.com/fenceline/fenceline/zzlaws_jsonobj_b1.FnPlainStringMatchesModel", spec := "fnPlainStringMatchesModel", apart := false }
def FnPlainStringMatchesModelSaid : Prop := fnPlainStringMatchesModelRow.holds Try.pinned (OpenSpec.ofChange fnPlainStringMatchesModelSpec)

/-- ITS FALSE NEIGHBOUR: 'it returns false'. Refute it at one input. -/
def fnPlainStringMatchesModelWrong : ChangeSpec := { name := "fnPlainStringMatchesModel", fn := fun _ => fun
  | [d1, d2] => { results := [.lit (.bool false)], args := [d1, d2] }
  | _ => none }
def FnPlainStringMatchesModelWrongFalsely : Prop := fnPlainStringMatchesModelRow.holds Try.pinned (OpenSpec.ofChange fnPlainStringMatchesModelWrong)

/-- 'zzlaws_jsonobj_b1.FnPlainStringQuotedRoundTrip': WHATEVER THE INPUT: true; the input reads as it did. -/
def fnPlainStringQuotedRoundTripSpec : ChangeSpec := { name := "fnPlainStringQuotedRoundTrip", fn := fun _ => fun
  | [d1, d2, d3] => { results := [.lit (.bool true)], args := [d1, d2, d3] }
  | _ => none }
def fnPlainStringQuotedRoundTripRow : OpenClaim := { program := "qxb6602720a", sum := "4f16e2823aa8796b3a99de4a104d0d5d5279d2ef236a4ac0486c2af7a0a51ecb", func := "example.com/fenceline/fenceline/zzlaws_jsonobj_b1.FnPlainStringQuotedRoundTrip", spec := "fnPlainStringQuotedRoundTrip", apart := false }
def FnPlainStringQuotedRoundTripSaid : Prop := fnPlainStringQuotedRoundTripRow.holds Try.pinned (OpenSpec.ofChange fnPlainStringQuotedRoundTripSpec)

/-- ITS FALSE NEIGHBOUR: 'it returns false'. Refute it at one input. -/
def fnPlainStringQuotedRoundTripWrong : ChangeSpec := { name := "fnPlainStringQuotedRoundTrip", fn := fun _ => fun
  | [d1, d2, d3] => { results := [.lit (.bool false)], args := [d1, d2, d3] }
  | _ => none }
def FnPlainStringQuotedRoundTripWrongFalsely : Prop := fnPlainStringQuotedRoundTripRow.holds Try.pinned (OpenSpec.ofChange fnPlainStringQuotedRoundTripWrong)

/-- 'zzlaws_jsonobj_b1.FnPlainStringRefusesEscapeOrControl': WHATEVER THE INPUT: true; the input reads as it did. -/
def fnPlainStringRefusesEscapeOrControlSpec : ChangeSpec := { name := "fnPlainStringRefusesEscapeOrControl", fn := fun _ => fun
  | [d1, d2, d3, d4] => { results := [.lit (.bool true)], args := [d1, d2, d3, d4] }
  | _ => none }
def fnPlainStringRefusesEscapeOrControlRow : OpenClaim := { program := "qxb6602720a", sum := "4f16e2823aa8796b3a99de4a104d0d5d5279d2ef236a4ac0486c2af7a0a51ecb", func := "example.com/fenceline/fenceline/zzlaws_jsonobj_b1.FnPlainStringRefusesEscapeOrControl", spec := "fnPlainStringRefusesEscapeOrControl", apart := false }
def FnPlainStringRefusesEscapeOrControlSaid : Prop := fnPlainStringRefusesEscapeOrControlRow.holds Try.pinned (OpenSpec.ofChange fnPlainStringRefusesEscapeOrControlSpec)

/-- ITS FALSE NEIGHBOUR: 'it returns false'. Refute it at one input. -/
def fnPlainStringRefusesEscapeOrControlWrong : ChangeSpec := { name := "fnPlainStringRefusesEscapeOrControl", fn := fun _ => fun
  | [d1, d2, d3, d4] => { results := [.lit (.bool false)], args := [d1, d2, d3, d4] }
  | _ => none }
def FnPlainStringRefusesEscapeOrControlWrongFalsely : Prop := fnPlainStringRefusesEscapeOrControlRow.holds Try.pinned (OpenSpec.ofChange fnPlainStringRefusesEscapeOrControlWrong)

/-- 'zzlaws_jsonobj_b1.FnWholeNumberMatchesCaseTable': WHATEVER THE INPUT: true; the input reads as it did. -/
def fnWholeNumberMatchesCaseTableSpec : ChangeSpec := { name := "fnWholeNumberMatchesCaseTable", fn := fun _ => fun
  | [d1, d2] => { results := [.lit (.bool true)], args := [d1, d2] }
  | _ => none }
def fnWholeNumberMatchesCaseTableRow : OpenClaim := { program := "qxb6602720a", sum := "4f16e2823aa8796b3a99de4a104d0d5d5279d2ef236a4ac0486c2af7a0a51ecb", func := "example.com/fenceline/fenceline/zzlaws_jsonobj_b1.FnWholeNumberMatchesCaseTable", spec := "fnWholeNumberMatchesCaseTable", apart := false }
def FnWholeNumberMatchesCaseTableSaid : Prop := fnWholeNumberMatchesCaseTableRow.holds Try.pinned (OpenSpec.ofChange fnWholeNumberMatchesCaseTableSpec)

/-- ITS FALSE NEIGHBOUR: 'it returns false'. Refute it at one input. -/
def fnWholeNumberMatchesCaseTableWrong : ChangeSpec := { name := "fnWholeNumberMatchesCaseTable", fn := fun _ => fun
  | [d1, d2] => { results := [.lit (.bool false)], args := [d1, d2] }
  | _ => none }
def FnWholeNumberMatchesCaseTableWrongFalsely : Prop := fnWholeNumberMatchesCaseTableRow.holds Try.pinned (OpenSpec.ofChange fnWholeNumberMatchesCaseTableWrong)

/-- 'zzlaws_jsonobj_b1.FnWholeNumberReadsDecimal': WHATEVER THE INPUT: true; the input reads as it did. -/
def fnWholeNumberReadsDecimalSpec : ChangeSpec := { name := "fnWholeNumberReadsDecimal", fn := fun _ => fun
  | [d1, d2, d3] => { results := [.lit (.bool true)], args := [d1, d2, d3] }
  | _ => none }
def fnWholeNumberReadsDecimalRow : OpenClaim := { program := "qxb6602720a", sum := "4f16e2823aa8796b3a99de4a104d0d5d5279d2ef236a4ac0486c2af7a0a51ecb", func := "example.com/fenceline/fenceline/zzlaws_jsonobj_b1.FnWholeNumberReadsDecimal", spec := "fnWholeNumberReadsDecimal", apart := false }
def FnWholeNumberReadsDecimalSaid : Prop := fnWholeNumberReadsDecimalRow.holds Try.pinned (OpenSpec.ofChange fnWholeNumberReadsDecimalSpec)

/-- ITS FALSE NEIGHBOUR: 'it returns false'. Refute it at one input. -/
def fnWholeNumberReadsDecimalWrong : ChangeSpec := { name := "fnWholeNumberReadsDecimal", fn := fun _ => fun
  | [d1, d2, d3] => { results := [.lit (.bool false)], args := [d1, d2, d3] }
  | _ => none }
def FnWholeNumberReadsDecimalWrongFalsely : Prop := fnWholeNumberReadsDecimalRow.holds Try.pinned (OpenSpec.ofChange fnWholeNumberReadsDecimalWrong)

/-- 'zzlaws_jsonobj_b1.FnWholeNumberRefusesLeadingZero': WHATEVER THE INPUT: true; the input reads as it did. -/
def fnWholeNumberRefusesLeadingZeroSpec : ChangeSpec := { name := "fnWholeNumberRefusesLeadingZero", fn := fun _ => fun
  | [d1, d2, d3, d4] => { results := [.lit (.bool true)], args := [d1, d2, d3, d4] }
  | _ => none }
def fnWholeNumberRefusesLeadingZeroRow : OpenClaim := { program := "qxb6602720a", sum := "4f16e2823aa8796b3a99de4a104d0d5d5279d2ef236a4ac0486c2af7a0a51ecb", func := "example.com/fenceline/fenceline/zzlaws_jsonobj_b1.FnWholeNumberRefusesLeadingZero", spec := "fnWholeNumberRefusesLeadingZero", apart := false }
def FnWholeNumberRefusesLeadingZeroSaid : Prop := fnWholeNumberRefusesLeadingZeroRow.holds Try.pinned (OpenSpec.ofChange fnWholeNumberRefusesLeadingZeroSpec)

/-- ITS FALSE NEIGHBOUR: 'it returns false'. Refute it at one input. -/
def fnWholeNumberRefusesLeadingZeroWrong : ChangeSpec := { name := "fnWholeNumberRefusesLeadingZero", fn := fun _ => fun
  | [d1, d2, d3, d4] => { results := [.lit (.bool false)], args := [d1, d2, d3, d4] }
  | _ => none }
def FnWholeNumberRefusesLeadingZeroWrongFalsely : Prop := fnWholeNumberRefusesLeadingZeroRow.holds Try.pinned (OpenSpec.ofChange fnWholeNumberRefusesLeadingZeroWrong)

/-- 'zzlaws_jsonobj_b1.FnPlainValueMatchesModel': WHATEVER THE INPUT: true; the input reads as it did. -/
def fnPlainValueMatchesModelSpec : ChangeSpec := { name := "fnPlainValueMatchesModel", fn := fun _ => fun
  | [d1, d2] => { results := [.lit (.bool true)], args := [d1, d2] }
  | _ => none }
def fnPlainValueMatchesModelRow : OpenClaim := { program := "qxb6602720a", sum := "4f16e2823aa8796b3a99de4a104d0d5d5279d2ef236a4ac0486c2af7a0a51ecb", func := "example.com/fenceline/fenceline/zzlaws_jsonobj_b1.FnPlainValueMatchesModel", spec := "fnPlainValueMatchesModel", apart := false }
def FnPlainValueMatchesModelSaid : Prop := fnPlainValueMatchesModelRow.holds Try.pinned (OpenSpec.ofChange fnPlainValueMatchesModelSpec)

/-- ITS FALSE NEIGHBOUR: 'it returns false'. Refute it at one input. -/
def fnPlainValueMatchesModelWrong : ChangeSpec := { name := "fnPlainValueMatchesModel", fn := fun _ => fun
  | [d1, d2] => { results := [.lit (.bool false)], args := [d1, d2] }
  | _ => none }
def FnPlainValueMatchesModelWrongFalsely : Prop := fnPlainValueMatchesModelRow.holds Try.pinned (OpenSpec.ofChange fnPlainValueMatchesModelWrong)

/-- 'zzlaws_jsonobj_b1.FnPlainValueOnlyReadsFromStart': WHATEVER THE INPUT: true; the input reads as it did. -/
def fnPlainValueOnlyReadsFromStartSpec : ChangeSpec := { name := "fnPlainValueOnlyReadsFromStart", fn := fun _ => fun
  | [d1, d2, d3] => { results := [.lit (.bool true)], args := [d1, d2, d3] }
  | _ => none }
def fnPlainValueOnlyReadsFromStartRow : OpenClaim := { program := "qxb6602720a", sum := "4f16e2823aa8796b3a99de4a104d0d5d5279d2ef236a4ac0486c2af7a0a51ecb", func := "example.com/fenceline/fenceline/zzlaws_jsonobj_b1.FnPlainValueOnlyReadsFromStart", spec := "fnPlainValueOnlyReadsFromStart", apart := false }
def FnPlainValueOnlyReadsFromStartSaid : Prop := fnPlainValueOnlyReadsFromStartRow.holds Try.pinned (OpenSpec.ofChange fnPlainValueOnlyReadsFromStartSpec)

/-- ITS FALSE NEIGHBOUR: 'it returns false'. Refute it at one input. -/
def fnPlainValueOnlyReadsFromStartWrong : ChangeSpec := { name := "fnPlainValueOnlyReadsFromStart", fn := fun _ => fun
  | [d1, d2, d3] => { results := [.lit (.bool false)], args := [d1, d2, d3] }
  | _ => none }
def FnPlainValueOnlyReadsFromStartWrongFalsely : Prop := fnPlainValueOnlyReadsFromStartRow.holds Try.pinned (OpenSpec.ofChange fnPlainValueOnlyReadsFromStartWrong)

/-- 'zzlaws_jsonobj_b1.FnPlainValueIgnoresWhatFollows': WHATEVER THE INPUT: true; the input reads as it did. -/
def fnPlainValueIgnoresWhatFollowsSpec : ChangeSpec := { name := "fnPlainValueIgnoresWhatFollows", fn := fun _ => fun
  | [d1, d2, d3] => { results := [.lit (.bool true)], args := [d1, d2, d3] }
  | _ => none }
def fnPlainValueIgnoresWhatFollowsRow : OpenClaim := { program := "qxb6602720a", sum := "4f16e2823aa8796b3a99de4a104d0d5d5279d2ef236a4ac0486c2af7a0a51ecb", func := "example.com/fenceline/fenceline/zzlaws_jsonobj_b1.FnPlainValueIgnoresWhatFollows", spec := "fnPlainValueIgnoresWhatFollows", apart := false }
def FnPlainValueIgnoresWhatFollowsSaid : Prop := fnPlainValueIgnoresWhatFollowsRow.holds Try.pinned (OpenSpec.ofChange fnPlainValueIgnoresWhatFollowsSpec)

/-- ITS FALSE NEIGHBOUR: 'it returns false'. Refute it at one input. -/
def fnPlainValueIgnoresWhatFollowsWrong : ChangeSpec := { name := "fnPlainValueIgnoresWhatFollows", fn := fun _ => fun
  | [d1, d2, d3] => { results := [.lit (.bool false)], args := [d1, d2, d3] }
  | _ => none }
def FnPlainValueIgnoresWhatFollowsWrongFalsely : Prop := fnPlainValueIgnoresWhatFollowsRow.holds Try.pinned (OpenSpec.ofChange fnPlainValueIgnoresWhatFollowsWrong)

end Rows
end Go.Proofs.Qxb6602720a

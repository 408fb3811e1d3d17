/-
  No cell of these rows narrows 'for every input' (looked for: loops, veiled, ifaces, maps, wideKeys, modest, calm, conditions, laid).
  DERIVED. THE GIVEN ROWS OF THIS SEAT. 7 by the template 'for every input the law returns true; each argument reads behind the call as it read before'; 0 by the template 'total and deterministic' (their statements: Qxb6603084aModsTotals.lean).
  GIVEN WITH THE SEED: the statements are not yours to turn. If you find one false, say at which input.
  Laid BY PROGRAM, IN A SANDBOX (cutbox-rows.mjs): the forced cells as the released guide's own fill.sh prints them over the translation 41efe120edf81a8e… (all of the seat's roots in one cut). By AI agents, Wed Nov 11 2026. No macro, syntax, notation, axiom, sorry.
-/
import Derived.Test.Qxb6603084aModsChecked
import GoSem.Claim
import GoSem.ClaimJoined
import GoSem.ClaimMapViews
import Derived.JoinedTies
import Derived.KernelRfl
namespace Go.Proofs.Qxb6603084aMods
/- THE CELL 'sum', in the pinned program and in every row, IS THE sha256 OF THE DUMP (.gsa) THAT Qxb6603084aModsProg.lean LOADS. Nothing in Lean hashes anything: it is a label: what it is worth is what the hold of that sum in a sandbox is worth. -/
noncomputable def Trym.pinned : Pinned := { name := "qxb6603084amods", sum := "41efe120edf81a8e6a94056d88a2e58f4821842bb42f49ee776ab7f438e51625", checked := Trym.checked }
namespace Rows
def none {H : Type} : Left H := { results := [], args := [] }

/-- 'zzlaws_internal_text_b1.FnPlainDigitsMatchesSplitModel': WHATEVER THE INPUT: true; the input reads as it did. -/
def fnPlainDigitsMatchesSplitModelSpec : ChangeSpec := { name := "fnPlainDigitsMatchesSplitModel", fn := fun _ => fun
  | [d] => { results := [.lit (.bool true)], args := [d] }
  | _ => none }
def fnPlainDigitsMatchesSplitModelRow : OpenClaim := { program := "qxb6603084amods", sum := "41efe120edf81a8e6a94056d88a2e58f4821842bb42f49ee776ab7f438e51625", func := "example.com/keelrate/keelrate/zzlaws_internal_text_b1.FnPlainDigitsMatchesSplitModel", spec := "fnPlainDigitsMatchesSplitModel", make := .lifted ["publicsums"], apart := false }
def FnPlainDigitsMatchesSplitModelSaid : Prop := fnPlainDigitsMatchesSplitModelRow.holds Trym.pinned (OpenSpec.ofChange fnPlainDigitsMatchesSplitModelSpec)

/-- ITS FALSE NEIGHBOUR: 'it returns false'. Refute it at one input. -/
def fnPlainDigitsMatchesSplitModelWrong : ChangeSpec := { name := "fnPlainDigitsMatchesSplitModel", fn := fun _ => fun
  | [d] => { results := [.lit (.bool false)], args := [d] }
  | _ => none }
def FnPlainDigitsMatchesSplitModelWrongFalsely : Prop := fnPlainDigitsMatchesSplitModelRow.holds Trym.pinned (OpenSpec.ofChange fnPlainDigitsMatchesSplitModelWrong)

/-- 'zzlaws_internal_text_b1.FnPlainDigitsSignIsTransparent': WHATEVER THE INPUT: true; the input reads as it did. -/
def fnPlainDigitsSignIsTransparentSpec : ChangeSpec := { name := "fnPlainDigitsSignIsTransparent", fn := fun _ => fun
  | [d] => { results := [.lit (.bool true)], args := [d] }
  | _ => none }
def fnPlainDigitsSignIsTransparentRow : OpenClaim := { program := "qxb6603084amods", sum := "41efe120edf81a8e6a94056d88a2e58f4821842bb42f49ee776ab7f438e51625", func := "example.com/keelrate/keelrate/zzlaws_internal_text_b1.FnPlainDigitsSignIsTransparent", spec := "fnPlainDigitsSignIsTransparent", make := .lifted ["publicsums"], apart := false }
def FnPlainDigitsSignIsTransparentSaid : Prop := fnPlainDigitsSignIsTransparentRow.holds Trym.pinned (OpenSpec.ofChange fnPlainDigitsSignIsTransparentSpec)

/-- ITS FALSE NEIGHBOUR: 'it returns false'. Refute it at one input. -/
def fnPlainDigitsSignIsTransparentWrong : ChangeSpec := { name := "fnPlainDigitsSignIsTransparent", fn := fun _ => fun
  | [d] => { results := [.lit (.bool false)], args := [d] }
  | _ => none }
def FnPlainDigitsSignIsTransparentWrongFalsely : Prop := fnPlainDigitsSignIsTransparentRow.holds Trym.pinned (OpenSpec.ofChange fnPlainDigitsSignIsTransparentWrong)

/-- 'zzlaws_internal_text_b1.FnStartsWithShapeSplits': WHATEVER THE INPUT: true; the input reads as it did. -/
def fnStartsWithShapeSplitsSpec : ChangeSpec := { name := "fnStartsWithShapeSplits", fn := fun _ => fun
  | [d1, d2, d3] => { results := [.lit (.bool true)], args := [d1, d2, d3] }
  | _ => none }
def fnStartsWithShapeSplitsRow : OpenClaim := { program := "qxb6603084amods", sum := "41efe120edf81a8e6a94056d88a2e58f4821842bb42f49ee776ab7f438e51625", func := "example.com/keelrate/keelrate/zzlaws_internal_text_b1.FnStartsWithShapeSplits", spec := "fnStartsWithShapeSplits", make := .lifted ["publicsums"], apart := false }
def FnStartsWithShapeSplitsSaid : Prop := fnStartsWithShapeSplitsRow.holds Trym.pinned (OpenSpec.ofChange fnStartsWithShapeSplitsSpec)

/-- ITS FALSE NEIGHBOUR: 'it returns false'. Refute it at one input. -/
def fnStartsWithShapeSplitsWrong : ChangeSpec := { name := "fnStartsWithShapeSplits", fn := fun _ => fun
  | [d1, d2, d3] => { results := [.lit (.bool false)], args := [d1, d2, d3] }
  | _ => none }
def FnStartsWithShapeSplitsWrongFalsely : Prop := fnStartsWithShapeSplitsRow.holds Trym.pinned (OpenSpec.ofChange fnStartsWithShapeSplitsWrong)

/-- 'zzlaws_internal_text_b1.FnStartsWithShapeWitness': WHATEVER THE INPUT: true; the input reads as it did. -/
def fnStartsWithShapeWitnessSpec : ChangeSpec := { name := "fnStartsWithShapeWitness", fn := fun _ => fun
  | [d1, d2] => { results := [.lit (.bool true)], args := [d1, d2] }
  | _ => none }
def fnStartsWithShapeWitnessRow : OpenClaim := { program := "qxb6603084amods", sum := "41efe120edf81a8e6a94056d88a2e58f4821842bb42f49ee776ab7f438e51625", func := "example.com/keelrate/keelrate/zzlaws_internal_text_b1.FnStartsWithShapeWitness", spec := "fnStartsWithShapeWitness", make := .lifted ["publicsums"], apart := false }
def FnStartsWithShapeWitnessSaid : Prop := fnStartsWithShapeWitnessRow.holds Trym.pinned (OpenSpec.ofChange fnStartsWithShapeWitnessSpec)

/-- ITS FALSE NEIGHBOUR: 'it returns false'. Refute it at one input. -/
def fnStartsWithShapeWitnessWrong : ChangeSpec := { name := "fnStartsWithShapeWitness", fn := fun _ => fun
  | [d1, d2] => { results := [.lit (.bool false)], args := [d1, d2] }
  | _ => none }
def FnStartsWithShapeWitnessWrongFalsely : Prop := fnStartsWithShapeWitnessRow.holds Trym.pinned (OpenSpec.ofChange fnStartsWithShapeWitnessWrong)

/-- 'zzlaws_internal_text_b1.FnStartsWithShapeReadsOnlyItsPrefix': WHATEVER THE INPUT: true; the input reads as it did. -/
def fnStartsWithShapeReadsOnlyItsPrefixSpec : ChangeSpec := { name := "fnStartsWithShapeReadsOnlyItsPrefix", fn := fun _ => fun
  | [d1, d2, d3] => { results := [.lit (.bool true)], args := [d1, d2, d3] }
  | _ => none }
def fnStartsWithShapeReadsOnlyItsPrefixRow : OpenClaim := { program := "qxb6603084amods", sum := "41efe120edf81a8e6a94056d88a2e58f4821842bb42f49ee776ab7f438e51625", func := "example.com/keelrate/keelrate/zzlaws_internal_text_b1.FnStartsWithShapeReadsOnlyItsPrefix", spec := "fnStartsWithShapeReadsOnlyItsPrefix", make := .lifted ["publicsums"], apart := false }
def FnStartsWithShapeReadsOnlyItsPrefixSaid : Prop := fnStartsWithShapeReadsOnlyItsPrefixRow.holds Trym.pinned (OpenSpec.ofChange fnStartsWithShapeReadsOnlyItsPrefixSpec)

/-- ITS FALSE NEIGHBOUR: 'it returns false'. Refute it at one input. -/
def fnStartsWithShapeReadsOnlyItsPrefixWrong : ChangeSpec := { name := "fnStartsWithShapeReadsOnlyItsPrefix", fn := fun _ => fun
  | [d1, d2, d3] => { results := [.lit (.bool false)], args := [d1, d2, d3] }
  | _ => none }
def FnStartsWithShapeReadsOnlyItsPrefixWrongFalsely : Prop := fnStartsWithShapeReadsOnlyItsPrefixRow.holds Trym.pinned (OpenSpec.ofChange fnStartsWithShapeReadsOnlyItsPrefixWrong)

/-- 'zzlaws_internal_text_b1.FnDateTimeShapeMatchesBackwardParser': WHATEVER THE INPUT: true; the input reads as it did. -/
def fnDateTimeShapeMatchesBackwardParserSpec : ChangeSpec := { name := "fnDateTimeShapeMatchesBackwardParser", fn := fun _ => fun
  | [d] => { results := [.lit (.bool true)], args := [d] }
  | _ => none }
def fnDateTimeShapeMatchesBackwardParserRow : OpenClaim := { program := "qxb6603084amods", sum := "41efe120edf81a8e6a94056d88a2e58f4821842bb42f49ee776ab7f438e51625", func := "example.com/keelrate/keelrate/zzlaws_internal_text_b1.FnDateTimeShapeMatchesBackwardParser", spec := "fnDateTimeShapeMatchesBackwardParser", make := .lifted ["publicsums"], apart := false }
def FnDateTimeShapeMatchesBackwardParserSaid : Prop := fnDateTimeShapeMatchesBackwardParserRow.holds Trym.pinned (OpenSpec.ofChange fnDateTimeShapeMatchesBackwardParserSpec)

/-- ITS FALSE NEIGHBOUR: 'it returns false'. Refute it at one input. -/
def fnDateTimeShapeMatchesBackwardParserWrong : ChangeSpec := { name := "fnDateTimeShapeMatchesBackwardParser", fn := fun _ => fun
  | [d] => { results := [.lit (.bool false)], args := [d] }
  | _ => none }
def FnDateTimeShapeMatchesBackwardParserWrongFalsely : Prop := fnDateTimeShapeMatchesBackwardParserRow.holds Trym.pinned (OpenSpec.ofChange fnDateTimeShapeMatchesBackwardParserWrong)

/-- 'zzlaws_internal_text_b1.FnDateTimeOffsetFormsAgree': WHATEVER THE INPUT: true; the input reads as it did. -/
def fnDateTimeOffsetFormsAgreeSpec : ChangeSpec := { name := "fnDateTimeOffsetFormsAgree", fn := fun _ => fun
  | [d] => { results := [.lit (.bool true)], args := [d] }
  | _ => none }
def fnDateTimeOffsetFormsAgreeRow : OpenClaim := { program := "qxb6603084amods", sum := "41efe120edf81a8e6a94056d88a2e58f4821842bb42f49ee776ab7f438e51625", func := "example.com/keelrate/keelrate/zzlaws_internal_text_b1.FnDateTimeOffsetFormsAgree", spec := "fnDateTimeOffsetFormsAgree", make := .lifted ["publicsums"], apart := false }
def FnDateTimeOffsetFormsAgreeSaid : Prop := fnDateTimeOffsetFormsAgreeRow.holds Trym.pinned (OpenSpec.ofChange fnDateTimeOffsetFormsAgreeSpec)

/-- ITS FALSE NEIGHBOUR: 'it returns false'. Refute it at one input. -/
def fnDateTimeOffsetFormsAgreeWrong : ChangeSpec := { name := "fnDateTimeOffsetFormsAgree", fn := fun _ => fun
  | [d] => { results := [.lit (.bool false)], args := [d] }
  | _ => none }
def FnDateTimeOffsetFormsAgreeWrongFalsely : Prop := fnDateTimeOffsetFormsAgreeRow.holds Trym.pinned (OpenSpec.ofChange fnDateTimeOffsetFormsAgreeWrong)

end Rows
end Go.Proofs.Qxb6603084aMods

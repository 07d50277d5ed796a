/-
  No cell of these rows narrows 'for every input' (looked for: loops, veiled, ifaces, maps, wideKeys, modest, calm, conditions, laid).
  DERIVED. THE GIVEN ROWS OF THIS SEAT. 7 by the template 'for every input the law returns true; each argument reads behind the call as it read before'; 0 by the template 'total and deterministic' (their statements: Qxb6605653aTotals.lean).
  GIVEN WITH THE SEED: the statements are not yours to turn. If you find one false, say at which input.
  Laid BY PROGRAM, IN A SANDBOX (cutbox-rows.mjs): the forced cells as the released guide's own fill.sh prints them over the translation 42dffb8b79983a80… (all of the seat's roots in one cut). By AI agents, Wed Nov 11 2026. No macro, syntax, notation, axiom, sorry.
-/
import Derived.Test.Qxb6605653aChecked
import GoSem.Claim
import GoSem.ClaimJoined
import GoSem.ClaimMapViews
import Derived.JoinedTies
import Derived.KernelRfl
namespace Go.Proofs.Qxb6605653a
/- THE CELL 'sum', in the pinned program and in every row, IS THE sha256 OF THE DUMP (.gsa) THAT Qxb6605653aProg.lean LOADS. Nothing in Lean hashes anything: it is a label: what it is worth is what the hold of that sum in a sandbox is worth. -/
noncomputable def Try.pinned : Pinned := { name := "qxb6605653a", sum := "42dffb8b79983a80c8ae5b9c93d2b002af57e5654d492b3f3b1f8a1ad5b349ad", checked := Try.checked }
namespace Rows
def none {H : Type} : Left H := { results := [], args := [] }

/-- 'zzlaws_pgstore_b1.FnLastTakenColumnsSubstitutesColumn': WHATEVER THE INPUT: true; the input reads as it did. -/
def fnLastTakenColumnsSubstitutesColumnSpec : ChangeSpec := { name := "fnLastTakenColumnsSubstitutesColumn", fn := fun _ => fun
  | [d] => { results := [.lit (.bool true)], args := [d] }
  | _ => none }
def fnLastTakenColumnsSubstitutesColumnRow : OpenClaim := { program := "qxb6605653a", sum := "42dffb8b79983a80c8ae5b9c93d2b002af57e5654d492b3f3b1f8a1ad5b349ad", func := "example.com/elver/elver/zzlaws_pgstore_b1.FnLastTakenColumnsSubstitutesColumn", spec := "fnLastTakenColumnsSubstitutesColumn", plainKeys := false, apart := false }
def FnLastTakenColumnsSubstitutesColumnSaid : Prop := fnLastTakenColumnsSubstitutesColumnRow.holds Try.pinned (OpenSpec.ofChange fnLastTakenColumnsSubstitutesColumnSpec)

/-- ITS FALSE NEIGHBOUR: 'it returns false'. Refute it at one input. -/
def fnLastTakenColumnsSubstitutesColumnWrong : ChangeSpec := { name := "fnLastTakenColumnsSubstitutesColumn", fn := fun _ => fun
  | [d] => { results := [.lit (.bool false)], args := [d] }
  | _ => none }
def FnLastTakenColumnsSubstitutesColumnWrongFalsely : Prop := fnLastTakenColumnsSubstitutesColumnRow.holds Try.pinned (OpenSpec.ofChange fnLastTakenColumnsSubstitutesColumnWrong)

/-- 'zzlaws_pgstore_b1.FnLastTakenColumnsLengthAndDistinct': WHATEVER THE INPUT: true; the input reads as it did. -/
def fnLastTakenColumnsLengthAndDistinctSpec : ChangeSpec := { name := "fnLastTakenColumnsLengthAndDistinct", fn := fun _ => fun
  | [d1, d2] => { results := [.lit (.bool true)], args := [d1, d2] }
  | _ => none }
def fnLastTakenColumnsLengthAndDistinctRow : OpenClaim := { program := "qxb6605653a", sum := "42dffb8b79983a80c8ae5b9c93d2b002af57e5654d492b3f3b1f8a1ad5b349ad", func := "example.com/elver/elver/zzlaws_pgstore_b1.FnLastTakenColumnsLengthAndDistinct", spec := "fnLastTakenColumnsLengthAndDistinct", plainKeys := false, apart := false }
def FnLastTakenColumnsLengthAndDistinctSaid : Prop := fnLastTakenColumnsLengthAndDistinctRow.holds Try.pinned (OpenSpec.ofChange fnLastTakenColumnsLengthAndDistinctSpec)

/-- ITS FALSE NEIGHBOUR: 'it returns false'. Refute it at one input. -/
def fnLastTakenColumnsLengthAndDistinctWrong : ChangeSpec := { name := "fnLastTakenColumnsLengthAndDistinct", fn := fun _ => fun
  | [d1, d2] => { results := [.lit (.bool false)], args := [d1, d2] }
  | _ => none }
def FnLastTakenColumnsLengthAndDistinctWrongFalsely : Prop := fnLastTakenColumnsLengthAndDistinctRow.holds Try.pinned (OpenSpec.ofChange fnLastTakenColumnsLengthAndDistinctWrong)

/-- 'zzlaws_pgstore_b1.FnUnseenExact': WHATEVER THE INPUT: true; the input reads as it did. -/
def fnUnseenExactSpec : ChangeSpec := { name := "fnUnseenExact", fn := fun _ => fun
  | [d1, d2] => { results := [.lit (.bool true)], args := [d1, d2] }
  | _ => none }
def fnUnseenExactRow : OpenClaim := { program := "qxb6605653a", sum := "42dffb8b79983a80c8ae5b9c93d2b002af57e5654d492b3f3b1f8a1ad5b349ad", func := "example.com/elver/elver/zzlaws_pgstore_b1.FnUnseenExact", spec := "fnUnseenExact", plainKeys := false, apart := false }
def FnUnseenExactSaid : Prop := fnUnseenExactRow.holds Try.pinned (OpenSpec.ofChange fnUnseenExactSpec)

/-- ITS FALSE NEIGHBOUR: 'it returns false'. Refute it at one input. -/
def fnUnseenExactWrong : ChangeSpec := { name := "fnUnseenExact", fn := fun _ => fun
  | [d1, d2] => { results := [.lit (.bool false)], args := [d1, d2] }
  | _ => none }
def FnUnseenExactWrongFalsely : Prop := fnUnseenExactRow.holds Try.pinned (OpenSpec.ofChange fnUnseenExactWrong)

/-- 'zzlaws_pgstore_b1.FnUnseenOnlyQualifyingReadingsMatter': WHATEVER THE INPUT: true; the input reads as it did. -/
def fnUnseenOnlyQualifyingReadingsMatterSpec : ChangeSpec := { name := "fnUnseenOnlyQualifyingReadingsMatter", fn := fun _ => fun
  | [d1, d2] => { results := [.lit (.bool true)], args := [d1, d2] }
  | _ => none }
def fnUnseenOnlyQualifyingReadingsMatterRow : OpenClaim := { program := "qxb6605653a", sum := "42dffb8b79983a80c8ae5b9c93d2b002af57e5654d492b3f3b1f8a1ad5b349ad", func := "example.com/elver/elver/zzlaws_pgstore_b1.FnUnseenOnlyQualifyingReadingsMatter", spec := "fnUnseenOnlyQualifyingReadingsMatter", plainKeys := false, apart := false }
def FnUnseenOnlyQualifyingReadingsMatterSaid : Prop := fnUnseenOnlyQualifyingReadingsMatterRow.holds Try.pinned (OpenSpec.ofChange fnUnseenOnlyQualifyingReadingsMatterSpec)

/-- ITS FALSE NEIGHBOUR: 'it returns false'. Refute it at one input. -/
def fnUnseenOnlyQualifyingReadingsMatterWrong : ChangeSpec := { name := "fnUnseenOnlyQualifyingReadingsMatter", fn := fun _ => fun
  | [d1, d2] => { results := [.lit (.bool false)], args := [d1, d2] }
  | _ => none }
def FnUnseenOnlyQualifyingReadingsMatterWrongFalsely : Prop := fnUnseenOnlyQualifyingReadingsMatterRow.holds Try.pinned (OpenSpec.ofChange fnUnseenOnlyQualifyingReadingsMatterWrong)

/-- 'zzlaws_pgstore_b1.FnFrontWhenUnseenKnowsNothing': WHATEVER THE INPUT: true; the input reads as it did. -/
def fnFrontWhenUnseenKnowsNothingSpec : ChangeSpec := { name := "fnFrontWhenUnseenKnowsNothing", fn := fun _ => fun
  | [d1, d2] => { results := [.lit (.bool true)], args := [d1, d2] }
  | _ => none }
def fnFrontWhenUnseenKnowsNothingRow : OpenClaim := { program := "qxb6605653a", sum := "42dffb8b79983a80c8ae5b9c93d2b002af57e5654d492b3f3b1f8a1ad5b349ad", func := "example.com/elver/elver/zzlaws_pgstore_b1.FnFrontWhenUnseenKnowsNothing", spec := "fnFrontWhenUnseenKnowsNothing", plainKeys := false, apart := false }
def FnFrontWhenUnseenKnowsNothingSaid : Prop := fnFrontWhenUnseenKnowsNothingRow.holds Try.pinned (OpenSpec.ofChange fnFrontWhenUnseenKnowsNothingSpec)

/-- ITS FALSE NEIGHBOUR: 'it returns false'. Refute it at one input. -/
def fnFrontWhenUnseenKnowsNothingWrong : ChangeSpec := { name := "fnFrontWhenUnseenKnowsNothing", fn := fun _ => fun
  | [d1, d2] => { results := [.lit (.bool false)], args := [d1, d2] }
  | _ => none }
def FnFrontWhenUnseenKnowsNothingWrongFalsely : Prop := fnFrontWhenUnseenKnowsNothingRow.holds Try.pinned (OpenSpec.ofChange fnFrontWhenUnseenKnowsNothingWrong)

/-- 'zzlaws_pgstore_b1.FnDeleteStatementFillsTemplate': WHATEVER THE INPUT: true; the input reads as it did. -/
def fnDeleteStatementFillsTemplateSpec : ChangeSpec := { name := "fnDeleteStatementFillsTemplate", fn := fun _ => fun
  | [d1, d2, d3] => { results := [.lit (.bool true)], args := [d1, d2, d3] }
  | _ => none }
def fnDeleteStatementFillsTemplateRow : OpenClaim := { program := "qxb6605653a", sum := "42dffb8b79983a80c8ae5b9c93d2b002af57e5654d492b3f3b1f8a1ad5b349ad", func := "example.com/elver/elver/zzlaws_pgstore_b1.FnDeleteStatementFillsTemplate", spec := "fnDeleteStatementFillsTemplate", plainKeys := false, apart := false }
def FnDeleteStatementFillsTemplateSaid : Prop := fnDeleteStatementFillsTemplateRow.holds Try.pinned (OpenSpec.ofChange fnDeleteStatementFillsTemplateSpec)

/-- ITS FALSE NEIGHBOUR: 'it returns false'. Refute it at one input. -/
def fnDeleteStatementFillsTemplateWrong : ChangeSpec := { name := "fnDeleteStatementFillsTemplate", fn := fun _ => fun
  | [d1, d2, d3] => { results := [.lit (.bool false)], args := [d1, d2, d3] }
  | _ => none }
def FnDeleteStatementFillsTemplateWrongFalsely : Prop := fnDeleteStatementFillsTemplateRow.holds Try.pinned (OpenSpec.ofChange fnDeleteStatementFillsTemplateWrong)

/-- 'zzlaws_pgstore_b1.FnDeleteStatementBindsItsParameters': WHATEVER THE INPUT: true; the input reads as it did. -/
def fnDeleteStatementBindsItsParametersSpec : ChangeSpec := { name := "fnDeleteStatementBindsItsParameters", fn := fun _ => fun
  | [d1, d2, d3] => { results := [.lit (.bool true)], args := [d1, d2, d3] }
  | _ => none }
def fnDeleteStatementBindsItsParametersRow : OpenClaim := { program := "qxb6605653a", sum := "42dffb8b79983a80c8ae5b9c93d2b002af57e5654d492b3f3b1f8a1ad5b349ad", func := "example.com/elver/elver/zzlaws_pgstore_b1.FnDeleteStatementBindsItsParameters", spec := "fnDeleteStatementBindsItsParameters", plainKeys := false, apart := false }
def FnDeleteStatementBindsItsParametersSaid : Prop := fnDeleteStatementBindsItsParametersRow.holds Try.pinned (OpenSpec.ofChange fnDeleteStatementBindsItsParametersSpec)

/-- ITS FALSE NEIGHBOUR: 'it returns false'. Refute it at one input. -/
def fnDeleteStatementBindsItsParametersWrong : ChangeSpec := { name := "fnDeleteStatementBindsItsParameters", fn := fun _ => fun
  | [d1, d2, d3] => { results := [.lit (.bool false)], args := [d1, d2, d3] }
  | _ => none }
def FnDeleteStatementBindsItsParametersWrongFalsely : Prop := fnDeleteStatementBindsItsParametersRow.holds Try.pinned (OpenSpec.ofChange fnDeleteStatementBindsItsParametersWrong)

end Rows
end Go.Proofs.Qxb6605653a

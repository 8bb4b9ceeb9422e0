/-
  No cell of these rows narrows 'for every input' (looked for: loops, veiled, ifaces, maps, wideKeys, modest, calm, conditions, laid).
  DERIVED. THE GIVEN ROWS OF THIS SEAT. 5 by the template 'for every input the law returns true; each argument reads behind the call as it read before'; 0 by the template 'total and deterministic' (their statements: Qxb6600293aTotals.lean).
  GIVEN WITH THE SEED: the statements are not yours to turn. If you find one false, say at which input.
  Laid BY PROGRAM, IN A SANDBOX (cutbox-rows.mjs): the forced cells as the released guide's own fill.sh prints them over the translation 777d397ef6be6231… (all of the seat's roots in one cut). By AI agents, Wed Nov 11 2026. No macro, syntax, notation, axiom, sorry.
-/
import Derived.Test.Qxb6600293aChecked
import GoSem.Claim
import GoSem.ClaimJoined
import GoSem.ClaimMapViews
import Derived.JoinedTies
import Derived.KernelRfl
namespace Go.Proofs.Qxb6600293a
/- THE CELL 'sum', in the pinned program and in every row, IS THE sha256 OF THE DUMP (.gsa) THAT Qxb6600293aProg.lean LOADS. Nothing in Lean hashes anything: it is a label: what it is worth is what the hold of that sum in a sandbox is worth. -/
noncomputable def Try.pinned : Pinned := { name := "qxb6600293a", sum := "777d397ef6be623120f879e4b18ec0499bad154c668fa9b08b87a4ef35af4380", checked := Try.checked }
namespace Rows
def none {H : Type} : Left H := { results := [], args := [] }

/-- 'zzlaws_config_b1.FnJailbreakBoundEmptyMethodIsClassifier': WHATEVER THE INPUT: true; the input reads as it did. -/
def fnJailbreakBoundEmptyMethodIsClassifierSpec : ChangeSpec := { name := "fnJailbreakBoundEmptyMethodIsClassifier", fn := fun _ => fun
  | [d1, d2, d3, d4] => { results := [.lit (.bool true)], args := [d1, d2, d3, d4] }
  | _ => none }
def fnJailbreakBoundEmptyMethodIsClassifierRow : OpenClaim := { program := "qxb6600293a", sum := "777d397ef6be623120f879e4b18ec0499bad154c668fa9b08b87a4ef35af4380", func := "example.com/cuerier/cuerier/zzlaws_config_b1.FnJailbreakBoundEmptyMethodIsClassifier", spec := "fnJailbreakBoundEmptyMethodIsClassifier", apart := false }
def FnJailbreakBoundEmptyMethodIsClassifierSaid : Prop := fnJailbreakBoundEmptyMethodIsClassifierRow.holds Try.pinned (OpenSpec.ofChange fnJailbreakBoundEmptyMethodIsClassifierSpec)

/-- ITS FALSE NEIGHBOUR: 'it returns false'. Refute it at one input. -/
def fnJailbreakBoundEmptyMethodIsClassifierWrong : ChangeSpec := { name := "fnJailbreakBoundEmptyMethodIsClassifier", fn := fun _ => fun
  | [d1, d2, d3, d4] => { results := [.lit (.bool false)], args := [d1, d2, d3, d4] }
  | _ => none }
def FnJailbreakBoundEmptyMethodIsClassifierWrongFalsely : Prop := fnJailbreakBoundEmptyMethodIsClassifierRow.holds Try.pinned (OpenSpec.ofChange fnJailbreakBoundEmptyMethodIsClassifierWrong)

/-- 'zzlaws_config_b1.FnJailbreakClassifierBoundAgreesWithPIIBound': WHATEVER THE INPUT: true; the input reads as it did. -/
def fnJailbreakClassifierBoundAgreesWithPIIBoundSpec : ChangeSpec := { name := "fnJailbreakClassifierBoundAgreesWithPIIBound", fn := fun _ => fun
  | [d1, d2, d3, d4, d5, d6, d7, d8, d9, d10, d11] => { results := [.lit (.bool true)], args := [d1, d2, d3, d4, d5, d6, d7, d8, d9, d10, d11] }
  | _ => none }
def fnJailbreakClassifierBoundAgreesWithPIIBoundRow : OpenClaim := { program := "qxb6600293a", sum := "777d397ef6be623120f879e4b18ec0499bad154c668fa9b08b87a4ef35af4380", func := "example.com/cuerier/cuerier/zzlaws_config_b1.FnJailbreakClassifierBoundAgreesWithPIIBound", spec := "fnJailbreakClassifierBoundAgreesWithPIIBound", apart := false }
def FnJailbreakClassifierBoundAgreesWithPIIBoundSaid : Prop := fnJailbreakClassifierBoundAgreesWithPIIBoundRow.holds Try.pinned (OpenSpec.ofChange fnJailbreakClassifierBoundAgreesWithPIIBoundSpec)

/-- ITS FALSE NEIGHBOUR: 'it returns false'. Refute it at one input. -/
def fnJailbreakClassifierBoundAgreesWithPIIBoundWrong : ChangeSpec := { name := "fnJailbreakClassifierBoundAgreesWithPIIBound", fn := fun _ => fun
  | [d1, d2, d3, d4, d5, d6, d7, d8, d9, d10, d11] => { results := [.lit (.bool false)], args := [d1, d2, d3, d4, d5, d6, d7, d8, d9, d10, d11] }
  | _ => none }
def FnJailbreakClassifierBoundAgreesWithPIIBoundWrongFalsely : Prop := fnJailbreakClassifierBoundAgreesWithPIIBoundRow.holds Try.pinned (OpenSpec.ofChange fnJailbreakClassifierBoundAgreesWithPIIBoundWrong)

/-- 'zzlaws_config_b1.FnPIITypesListsMatchesBackwardScan': WHATEVER THE INPUT: true; the input reads as it did. -/
def fnPIITypesListsMatchesBackwardScanSpec : ChangeSpec := { name := "fnPIITypesListsMatchesBackwardScan", fn := fun _ => fun
  | [d1, d2] => { results := [.lit (.bool true)], args := [d1, d2] }
  | _ => none }
def fnPIITypesListsMatchesBackwardScanRow : OpenClaim := { program := "qxb6600293a", sum := "777d397ef6be623120f879e4b18ec0499bad154c668fa9b08b87a4ef35af4380", func := "example.com/cuerier/cuerier/zzlaws_config_b1.FnPIITypesListsMatchesBackwardScan", spec := "fnPIITypesListsMatchesBackwardScan", apart := false }
def FnPIITypesListsMatchesBackwardScanSaid : Prop := fnPIITypesListsMatchesBackwardScanRow.holds Try.pinned (OpenSpec.ofChange fnPIITypesListsMatchesBackwardScanSpec)

/-- ITS FALSE NEIGHBOUR: 'it returns false'. Refute it at one input. -/
def fnPIITypesListsMatchesBackwardScanWrong : ChangeSpec := { name := "fnPIITypesListsMatchesBackwardScan", fn := fun _ => fun
  | [d1, d2] => { results := [.lit (.bool false)], args := [d1, d2] }
  | _ => none }
def FnPIITypesListsMatchesBackwardScanWrongFalsely : Prop := fnPIITypesListsMatchesBackwardScanRow.holds Try.pinned (OpenSpec.ofChange fnPIITypesListsMatchesBackwardScanWrong)

/-- 'zzlaws_config_b1.FnPIITypesListsOfConcatenationIsOr': WHATEVER THE INPUT: true; the input reads as it did. -/
def fnPIITypesListsOfConcatenationIsOrSpec : ChangeSpec := { name := "fnPIITypesListsOfConcatenationIsOr", fn := fun _ => fun
  | [d1, d2, d3] => { results := [.lit (.bool true)], args := [d1, d2, d3] }
  | _ => none }
def fnPIITypesListsOfConcatenationIsOrRow : OpenClaim := { program := "qxb6600293a", sum := "777d397ef6be623120f879e4b18ec0499bad154c668fa9b08b87a4ef35af4380", func := "example.com/cuerier/cuerier/zzlaws_config_b1.FnPIITypesListsOfConcatenationIsOr", spec := "fnPIITypesListsOfConcatenationIsOr", apart := false }
def FnPIITypesListsOfConcatenationIsOrSaid : Prop := fnPIITypesListsOfConcatenationIsOrRow.holds Try.pinned (OpenSpec.ofChange fnPIITypesListsOfConcatenationIsOrSpec)

/-- ITS FALSE NEIGHBOUR: 'it returns false'. Refute it at one input. -/
def fnPIITypesListsOfConcatenationIsOrWrong : ChangeSpec := { name := "fnPIITypesListsOfConcatenationIsOr", fn := fun _ => fun
  | [d1, d2, d3] => { results := [.lit (.bool false)], args := [d1, d2, d3] }
  | _ => none }
def FnPIITypesListsOfConcatenationIsOrWrongFalsely : Prop := fnPIITypesListsOfConcatenationIsOrRow.holds Try.pinned (OpenSpec.ofChange fnPIITypesListsOfConcatenationIsOrWrong)

/-- 'zzlaws_config_b1.FnPIITypesListsInsertedFoundRemovedGone': WHATEVER THE INPUT: true; the input reads as it did. -/
def fnPIITypesListsInsertedFoundRemovedGoneSpec : ChangeSpec := { name := "fnPIITypesListsInsertedFoundRemovedGone", fn := fun _ => fun
  | [d1, d2, d3] => { results := [.lit (.bool true)], args := [d1, d2, d3] }
  | _ => none }
def fnPIITypesListsInsertedFoundRemovedGoneRow : OpenClaim := { program := "qxb6600293a", sum := "777d397ef6be623120f879e4b18ec0499bad154c668fa9b08b87a4ef35af4380", func := "example.com/cuerier/cuerier/zzlaws_config_b1.FnPIITypesListsInsertedFoundRemovedGone", spec := "fnPIITypesListsInsertedFoundRemovedGone", apart := false }
def FnPIITypesListsInsertedFoundRemovedGoneSaid : Prop := fnPIITypesListsInsertedFoundRemovedGoneRow.holds Try.pinned (OpenSpec.ofChange fnPIITypesListsInsertedFoundRemovedGoneSpec)

/-- ITS FALSE NEIGHBOUR: 'it returns false'. Refute it at one input. -/
def fnPIITypesListsInsertedFoundRemovedGoneWrong : ChangeSpec := { name := "fnPIITypesListsInsertedFoundRemovedGone", fn := fun _ => fun
  | [d1, d2, d3] => { results := [.lit (.bool false)], args := [d1, d2, d3] }
  | _ => none }
def FnPIITypesListsInsertedFoundRemovedGoneWrongFalsely : Prop := fnPIITypesListsInsertedFoundRemovedGoneRow.holds Try.pinned (OpenSpec.ofChange fnPIITypesListsInsertedFoundRemovedGoneWrong)

end Rows
end Go.Proofs.Qxb6600293a

/-
  No cell of these rows narrows 'for every input' (looked for: loops, veiled, ifaces, maps, wideKeys, modest, calm, conditions, laid).
  DERIVED. THE GIVEN ROWS OF THIS SEAT. 7 by the template 'for every input the law returns true; each argument reads behind the call as it read before'; 0 by the template 'total and deterministic' (their statements: Qxb6600333aTotals.lean).
  GIVEN WITH THE SEED: the statements are not yours to turn. If you find one false, say at which input.
  Laid BY PROGRAM, IN A SANDBOX (cutbox-rows.mjs): the forced cells as the released guide's own fill.sh prints them over the translation 743cde5ce946257a… (all of the seat's roots in one cut). By AI agents, Wed Nov 11 2026. No macro, syntax, notation, axiom, sorry.
-/
import Derived.Test.Qxb6600333aChecked
import GoSem.Claim
import GoSem.ClaimJoined
import GoSem.ClaimMapViews
import Derived.JoinedTies
import Derived.KernelRfl
namespace Go.Proofs.Qxb6600333a
/- THE CELL 'sum', in the pinned program and in every row, IS THE sha256 OF THE DUMP (.gsa) THAT Qxb6600333aProg.lean LOADS. Nothing in Lean hashes anything: it is a label: what it is worth is what the hold of that sum in a sandbox is worth. -/
noncomputable def Try.pinned : Pinned := { name := "qxb6600333a", sum := "743cde5ce946257add6acb30973473871223787bbea1cac97b3c8f9d3995fef5", checked := Try.checked }
namespace Rows
def none {H : Type} : Left H := { results := [], args := [] }

/-- 'zzlaws_firstline_b1.FnDigitsMatchesRightToLeftModel': WHATEVER THE INPUT: true; the input reads as it did. -/
def fnDigitsMatchesRightToLeftModelSpec : ChangeSpec := { name := "fnDigitsMatchesRightToLeftModel", fn := fun _ => fun
  | [d1, d2, d3] => { results := [.lit (.bool true)], args := [d1, d2, d3] }
  | _ => none }
def fnDigitsMatchesRightToLeftModelRow : OpenClaim := { program := "qxb6600333a", sum := "743cde5ce946257add6acb30973473871223787bbea1cac97b3c8f9d3995fef5", func := "example.com/sealstone/sealstone/zzlaws_firstline_b1.FnDigitsMatchesRightToLeftModel", spec := "fnDigitsMatchesRightToLeftModel", apart := false }
def FnDigitsMatchesRightToLeftModelSaid : Prop := fnDigitsMatchesRightToLeftModelRow.holds Try.pinned (OpenSpec.ofChange fnDigitsMatchesRightToLeftModelSpec)

/-- ITS FALSE NEIGHBOUR: 'it returns false'. Refute it at one input. -/
def fnDigitsMatchesRightToLeftModelWrong : ChangeSpec := { name := "fnDigitsMatchesRightToLeftModel", fn := fun _ => fun
  | [d1, d2, d3] => { results := [.lit (.bool false)], args := [d1, d2, d3] }
  | _ => none }
def FnDigitsMatchesRightToLeftModelWrongFalsely : Prop := fnDigitsMatchesRightToLeftModelRow.holds Try.pinned (OpenSpec.ofChange fnDigitsMatchesRightToLeftModelWrong)

/-- 'zzlaws_firstline_b1.FnDigitsReadsBackZeroPaddedNumeral': WHATEVER THE INPUT: true; the input reads as it did. -/
def fnDigitsReadsBackZeroPaddedNumeralSpec : ChangeSpec := { name := "fnDigitsReadsBackZeroPaddedNumeral", fn := fun _ => fun
  | [d1, d2, d3, d4] => { results := [.lit (.bool true)], args := [d1, d2, d3, d4] }
  | _ => none }
def fnDigitsReadsBackZeroPaddedNumeralRow : OpenClaim := { program := "qxb6600333a", sum := "743cde5ce946257add6acb30973473871223787bbea1cac97b3c8f9d3995fef5", func := "example.com/sealstone/sealstone/zzlaws_firstline_b1.FnDigitsReadsBackZeroPaddedNumeral", spec := "fnDigitsReadsBackZeroPaddedNumeral", apart := false }
def FnDigitsReadsBackZeroPaddedNumeralSaid : Prop := fnDigitsReadsBackZeroPaddedNumeralRow.holds Try.pinned (OpenSpec.ofChange fnDigitsReadsBackZeroPaddedNumeralSpec)

/-- ITS FALSE NEIGHBOUR: 'it returns false'. Refute it at one input. -/
def fnDigitsReadsBackZeroPaddedNumeralWrong : ChangeSpec := { name := "fnDigitsReadsBackZeroPaddedNumeral", fn := fun _ => fun
  | [d1, d2, d3, d4] => { results := [.lit (.bool false)], args := [d1, d2, d3, d4] }
  | _ => none }
def FnDigitsReadsBackZeroPaddedNumeralWrongFalsely : Prop := fnDigitsReadsBackZeroPaddedNumeralRow.holds Try.pinned (OpenSpec.ofChange fnDigitsReadsBackZeroPaddedNumeralWrong)

/-- 'zzlaws_firstline_b1.FnDigitsTwoReadsAgreeWithOne': WHATEVER THE INPUT: true; the input reads as it did. -/
def fnDigitsTwoReadsAgreeWithOneSpec : ChangeSpec := { name := "fnDigitsTwoReadsAgreeWithOne", fn := fun _ => fun
  | [d1, d2, d3] => { results := [.lit (.bool true)], args := [d1, d2, d3] }
  | _ => none }
def fnDigitsTwoReadsAgreeWithOneRow : OpenClaim := { program := "qxb6600333a", sum := "743cde5ce946257add6acb30973473871223787bbea1cac97b3c8f9d3995fef5", func := "example.com/sealstone/sealstone/zzlaws_firstline_b1.FnDigitsTwoReadsAgreeWithOne", spec := "fnDigitsTwoReadsAgreeWithOne", apart := false }
def FnDigitsTwoReadsAgreeWithOneSaid : Prop := fnDigitsTwoReadsAgreeWithOneRow.holds Try.pinned (OpenSpec.ofChange fnDigitsTwoReadsAgreeWithOneSpec)

/-- ITS FALSE NEIGHBOUR: 'it returns false'. Refute it at one input. -/
def fnDigitsTwoReadsAgreeWithOneWrong : ChangeSpec := { name := "fnDigitsTwoReadsAgreeWithOne", fn := fun _ => fun
  | [d1, d2, d3] => { results := [.lit (.bool false)], args := [d1, d2, d3] }
  | _ => none }
def FnDigitsTwoReadsAgreeWithOneWrongFalsely : Prop := fnDigitsTwoReadsAgreeWithOneRow.holds Try.pinned (OpenSpec.ofChange fnDigitsTwoReadsAgreeWithOneWrong)

/-- 'zzlaws_firstline_b1.FnExpectTwoStepsAgreeWithOne': WHATEVER THE INPUT: true; the input reads as it did. -/
def fnExpectTwoStepsAgreeWithOneSpec : ChangeSpec := { name := "fnExpectTwoStepsAgreeWithOne", fn := fun _ => fun
  | [d1, d2, d3] => { results := [.lit (.bool true)], args := [d1, d2, d3] }
  | _ => none }
def fnExpectTwoStepsAgreeWithOneRow : OpenClaim := { program := "qxb6600333a", sum := "743cde5ce946257add6acb30973473871223787bbea1cac97b3c8f9d3995fef5", func := "example.com/sealstone/sealstone/zzlaws_firstline_b1.FnExpectTwoStepsAgreeWithOne", spec := "fnExpectTwoStepsAgreeWithOne", apart := false }
def FnExpectTwoStepsAgreeWithOneSaid : Prop := fnExpectTwoStepsAgreeWithOneRow.holds Try.pinned (OpenSpec.ofChange fnExpectTwoStepsAgreeWithOneSpec)

/-- ITS FALSE NEIGHBOUR: 'it returns false'. Refute it at one input. -/
def fnExpectTwoStepsAgreeWithOneWrong : ChangeSpec := { name := "fnExpectTwoStepsAgreeWithOne", fn := fun _ => fun
  | [d1, d2, d3] => { results := [.lit (.bool false)], args := [d1, d2, d3] }
  | _ => none }
def FnExpectTwoStepsAgreeWithOneWrongFalsely : Prop := fnExpectTwoStepsAgreeWithOneRow.holds Try.pinned (OpenSpec.ofChange fnExpectTwoStepsAgreeWithOneWrong)

/-- 'zzlaws_firstline_b1.FnFractionMatchesScaledPrefixModel': WHATEVER THE INPUT: true; the input reads as it did. -/
def fnFractionMatchesScaledPrefixModelSpec : ChangeSpec := { name := "fnFractionMatchesScaledPrefixModel", fn := fun _ => fun
  | [d1, d2] => { results := [.lit (.bool true)], args := [d1, d2] }
  | _ => none }
def fnFractionMatchesScaledPrefixModelRow : OpenClaim := { program := "qxb6600333a", sum := "743cde5ce946257add6acb30973473871223787bbea1cac97b3c8f9d3995fef5", func := "example.com/sealstone/sealstone/zzlaws_firstline_b1.FnFractionMatchesScaledPrefixModel", spec := "fnFractionMatchesScaledPrefixModel", apart := false }
def FnFractionMatchesScaledPrefixModelSaid : Prop := fnFractionMatchesScaledPrefixModelRow.holds Try.pinned (OpenSpec.ofChange fnFractionMatchesScaledPrefixModelSpec)

/-- ITS FALSE NEIGHBOUR: 'it returns false'. Refute it at one input. -/
def fnFractionMatchesScaledPrefixModelWrong : ChangeSpec := { name := "fnFractionMatchesScaledPrefixModel", fn := fun _ => fun
  | [d1, d2] => { results := [.lit (.bool false)], args := [d1, d2] }
  | _ => none }
def FnFractionMatchesScaledPrefixModelWrongFalsely : Prop := fnFractionMatchesScaledPrefixModelRow.holds Try.pinned (OpenSpec.ofChange fnFractionMatchesScaledPrefixModelWrong)

/-- 'zzlaws_firstline_b1.FnFractionAgreesWithNineDigitsAndStaysUnderASecond': WHATEVER THE INPUT: true; the input reads as it did. -/
def fnFractionAgreesWithNineDigitsAndStaysUnderASecondSpec : ChangeSpec := { name := "fnFractionAgreesWithNineDigitsAndStaysUnderASecond", fn := fun _ => fun
  | [d] => { results := [.lit (.bool true)], args := [d] }
  | _ => none }
def fnFractionAgreesWithNineDigitsAndStaysUnderASecondRow : OpenClaim := { program := "qxb6600333a", sum := "743cde5ce946257add6acb30973473871223787bbea1cac97b3c8f9d3995fef5", func := "example.com/sealstone/sealstone/zzlaws_firstline_b1.FnFractionAgreesWithNineDigitsAndStaysUnderASecond", spec := "fnFractionAgreesWithNineDigitsAndStaysUnderASecond", apart := false }
def FnFractionAgreesWithNineDigitsAndStaysUnderASecondSaid : Prop := fnFractionAgreesWithNineDigitsAndStaysUnderASecondRow.holds Try.pinned (OpenSpec.ofChange fnFractionAgreesWithNineDigitsAndStaysUnderASecondSpec)

/-- ITS FALSE NEIGHBOUR: 'it returns false'. Refute it at one input. -/
def fnFractionAgreesWithNineDigitsAndStaysUnderASecondWrong : ChangeSpec := { name := "fnFractionAgreesWithNineDigitsAndStaysUnderASecond", fn := fun _ => fun
  | [d] => { results := [.lit (.bool false)], args := [d] }
  | _ => none }
def FnFractionAgreesWithNineDigitsAndStaysUnderASecondWrongFalsely : Prop := fnFractionAgreesWithNineDigitsAndStaysUnderASecondRow.holds Try.pinned (OpenSpec.ofChange fnFractionAgreesWithNineDigitsAndStaysUnderASecondWrong)

/-- 'zzlaws_firstline_b1.FnFractionIgnoresTrailingZeros': WHATEVER THE INPUT: true; the input reads as it did. -/
def fnFractionIgnoresTrailingZerosSpec : ChangeSpec := { name := "fnFractionIgnoresTrailingZeros", fn := fun _ => fun
  | [d1, d2] => { results := [.lit (.bool true)], args := [d1, d2] }
  | _ => none }
def fnFractionIgnoresTrailingZerosRow : OpenClaim := { program := "qxb6600333a", sum := "743cde5ce946257add6acb30973473871223787bbea1cac97b3c8f9d3995fef5", func := "example.com/sealstone/sealstone/zzlaws_firstline_b1.FnFractionIgnoresTrailingZeros", spec := "fnFractionIgnoresTrailingZeros", apart := false }
def FnFractionIgnoresTrailingZerosSaid : Prop := fnFractionIgnoresTrailingZerosRow.holds Try.pinned (OpenSpec.ofChange fnFractionIgnoresTrailingZerosSpec)

/-- ITS FALSE NEIGHBOUR: 'it returns false'. Refute it at one input. -/
def fnFractionIgnoresTrailingZerosWrong : ChangeSpec := { name := "fnFractionIgnoresTrailingZeros", fn := fun _ => fun
  | [d1, d2] => { results := [.lit (.bool false)], args := [d1, d2] }
  | _ => none }
def FnFractionIgnoresTrailingZerosWrongFalsely : Prop := fnFractionIgnoresTrailingZerosRow.holds Try.pinned (OpenSpec.ofChange fnFractionIgnoresTrailingZerosWrong)

end Rows
end Go.Proofs.Qxb6600333a

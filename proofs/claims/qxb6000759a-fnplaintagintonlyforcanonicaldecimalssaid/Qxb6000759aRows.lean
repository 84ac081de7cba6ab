/-
  No cell of these rows narrows 'for every input' (looked for: loops, veiled, ifaces, maps, wideKeys, modest, calm, conditions, laid).
  DERIVED. THE GIVEN ROWS OF THIS SEAT. 8 by the template 'for every input the law returns true; each argument reads behind the call as it read before'; 0 by the template 'total and deterministic' (their statements: Qxb6000759aTotals.lean).
  GIVEN WITH THE SEED: the statements are not yours to turn. If you find one false, say at which input.
  Laid BY PROGRAM, IN A SANDBOX (cutbox-rows.mjs): the forced cells as the released guide's own fill.sh prints them over the translation 644be48b846fa25c… (all of the seat's roots in one cut). By AI agents, Wed Nov 11 2026. No macro, syntax, notation, axiom, sorry.
-/
import Derived.Test.Qxb6000759aChecked
import GoSem.Claim
import GoSem.ClaimJoined
import GoSem.ClaimMapViews
import Derived.JoinedTies
import Derived.KernelRfl
namespace Go.Proofs.Qxb6000759a
/- THE CELL 'sum', in the pinned program and in every row, IS THE sha256 OF THE DUMP (.gsa) THAT Qxb6000759aProg.lean LOADS. Nothing in Lean hashes anything: it is a label: what it is worth is what the hold of that sum in a sandbox is worth. -/
noncomputable def Try.pinned : Pinned := { name := "qxb6000759a", sum := "644be48b846fa25c755a09b6d215b64f04fa7d364c7be95b7b9a8f4f407fde3e", checked := Try.checked }
namespace Rows
def none {H : Type} : Left H := { results := [], args := [] }

/-- 'zzlaws_internal_config_b1.FnHasDotSegmentMatchesScanModel': WHATEVER THE INPUT: true; the input reads as it did. -/
def fnHasDotSegmentMatchesScanModelSpec : ChangeSpec := { name := "fnHasDotSegmentMatchesScanModel", fn := fun _ => fun
  | [d] => { results := [.lit (.bool true)], args := [d] }
  | _ => none }
def fnHasDotSegmentMatchesScanModelRow : OpenClaim := { program := "qxb6000759a", sum := "644be48b846fa25c755a09b6d215b64f04fa7d364c7be95b7b9a8f4f407fde3e", func := "example.com/signalbox/signalbox/zzlaws_internal_config_b1.FnHasDotSegmentMatchesScanModel", spec := "fnHasDotSegmentMatchesScanModel", inPlace := ["internal/bytealg.IndexByteString", "internal/bytealg.IndexString"], named := ["internal/bytealg.MaxLen"], apart := false }
def FnHasDotSegmentMatchesScanModelSaid : Prop := fnHasDotSegmentMatchesScanModelRow.holds Try.pinned (OpenSpec.ofChange fnHasDotSegmentMatchesScanModelSpec)

/-- ITS FALSE NEIGHBOUR: 'it returns false'. Refute it at one input. -/
def fnHasDotSegmentMatchesScanModelWrong : ChangeSpec := { name := "fnHasDotSegmentMatchesScanModel", fn := fun _ => fun
  | [d] => { results := [.lit (.bool false)], args := [d] }
  | _ => none }
def FnHasDotSegmentMatchesScanModelWrongFalsely : Prop := fnHasDotSegmentMatchesScanModelRow.holds Try.pinned (OpenSpec.ofChange fnHasDotSegmentMatchesScanModelWrong)

/-- 'zzlaws_internal_config_b1.FnHasDotSegmentJoinIsOr': WHATEVER THE INPUT: true; the input reads as it did. -/
def fnHasDotSegmentJoinIsOrSpec : ChangeSpec := { name := "fnHasDotSegmentJoinIsOr", fn := fun _ => fun
  | [d1, d2, d3] => { results := [.lit (.bool true)], args := [d1, d2, d3] }
  | _ => none }
def fnHasDotSegmentJoinIsOrRow : OpenClaim := { program := "qxb6000759a", sum := "644be48b846fa25c755a09b6d215b64f04fa7d364c7be95b7b9a8f4f407fde3e", func := "example.com/signalbox/signalbox/zzlaws_internal_config_b1.FnHasDotSegmentJoinIsOr", spec := "fnHasDotSegmentJoinIsOr", inPlace := ["internal/bytealg.IndexByteString", "internal/bytealg.IndexString"], named := ["internal/bytealg.MaxLen"], apart := false }
def FnHasDotSegmentJoinIsOrSaid : Prop := fnHasDotSegmentJoinIsOrRow.holds Try.pinned (OpenSpec.ofChange fnHasDotSegmentJoinIsOrSpec)

/-- ITS FALSE NEIGHBOUR: 'it returns false'. Refute it at one input. -/
def fnHasDotSegmentJoinIsOrWrong : ChangeSpec := { name := "fnHasDotSegmentJoinIsOr", fn := fun _ => fun
  | [d1, d2, d3] => { results := [.lit (.bool false)], args := [d1, d2, d3] }
  | _ => none }
def FnHasDotSegmentJoinIsOrWrongFalsely : Prop := fnHasDotSegmentJoinIsOrRow.holds Try.pinned (OpenSpec.ofChange fnHasDotSegmentJoinIsOrWrong)

/-- 'zzlaws_internal_config_b1.FnHasDotSegmentBackslashIsSlash': WHATEVER THE INPUT: true; the input reads as it did. -/
def fnHasDotSegmentBackslashIsSlashSpec : ChangeSpec := { name := "fnHasDotSegmentBackslashIsSlash", fn := fun _ => fun
  | [d] => { results := [.lit (.bool true)], args := [d] }
  | _ => none }
def fnHasDotSegmentBackslashIsSlashRow : OpenClaim := { program := "qxb6000759a", sum := "644be48b846fa25c755a09b6d215b64f04fa7d364c7be95b7b9a8f4f407fde3e", func := "example.com/signalbox/signalbox/zzlaws_internal_config_b1.FnHasDotSegmentBackslashIsSlash", spec := "fnHasDotSegmentBackslashIsSlash", inPlace := ["internal/bytealg.IndexByteString", "internal/bytealg.IndexString"], named := ["internal/bytealg.MaxLen"], apart := false }
def FnHasDotSegmentBackslashIsSlashSaid : Prop := fnHasDotSegmentBackslashIsSlashRow.holds Try.pinned (OpenSpec.ofChange fnHasDotSegmentBackslashIsSlashSpec)

/-- ITS FALSE NEIGHBOUR: 'it returns false'. Refute it at one input. -/
def fnHasDotSegmentBackslashIsSlashWrong : ChangeSpec := { name := "fnHasDotSegmentBackslashIsSlash", fn := fun _ => fun
  | [d] => { results := [.lit (.bool false)], args := [d] }
  | _ => none }
def FnHasDotSegmentBackslashIsSlashWrongFalsely : Prop := fnHasDotSegmentBackslashIsSlashRow.holds Try.pinned (OpenSpec.ofChange fnHasDotSegmentBackslashIsSlashWrong)

/-- 'zzlaws_internal_config_b1.FnPlainTagAcceptsEveryDecimalBelow1e18': WHATEVER THE INPUT: true; the input reads as it did. -/
def fnPlainTagAcceptsEveryDecimalBelow1e18Spec : ChangeSpec := { name := "fnPlainTagAcceptsEveryDecimalBelow1e18", fn := fun _ => fun
  | [d] => { results := [.lit (.bool true)], args := [d] }
  | _ => none }
def fnPlainTagAcceptsEveryDecimalBelow1e18Row : OpenClaim := { program := "qxb6000759a", sum := "644be48b846fa25c755a09b6d215b64f04fa7d364c7be95b7b9a8f4f407fde3e", func := "example.com/signalbox/signalbox/zzlaws_internal_config_b1.FnPlainTagAcceptsEveryDecimalBelow1e18", spec := "fnPlainTagAcceptsEveryDecimalBelow1e18", apart := false }
def FnPlainTagAcceptsEveryDecimalBelow1e18Said : Prop := fnPlainTagAcceptsEveryDecimalBelow1e18Row.holds Try.pinned (OpenSpec.ofChange fnPlainTagAcceptsEveryDecimalBelow1e18Spec)

/-- ITS FALSE NEIGHBOUR: 'it returns false'. Refute it at one input. -/
def fnPlainTagAcceptsEveryDecimalBelow1e18Wrong : ChangeSpec := { name := "fnPlainTagAcceptsEveryDecimalBelow1e18", fn := fun _ => fun
  | [d] => { results := [.lit (.bool false)], args := [d] }
  | _ => none }
def FnPlainTagAcceptsEveryDecimalBelow1e18WrongFalsely : Prop := fnPlainTagAcceptsEveryDecimalBelow1e18Row.holds Try.pinned (OpenSpec.ofChange fnPlainTagAcceptsEveryDecimalBelow1e18Wrong)

/-- 'zzlaws_internal_config_b1.FnPlainTagIntOnlyForCanonicalDecimals': WHATEVER THE INPUT: true; the input reads as it did. -/
def fnPlainTagIntOnlyForCanonicalDecimalsSpec : ChangeSpec := { name := "fnPlainTagIntOnlyForCanonicalDecimals", fn := fun _ => fun
  | [d] => { results := [.lit (.bool true)], args := [d] }
  | _ => none }
def fnPlainTagIntOnlyForCanonicalDecimalsRow : OpenClaim := { program := "qxb6000759a", sum := "644be48b846fa25c755a09b6d215b64f04fa7d364c7be95b7b9a8f4f407fde3e", func := "example.com/signalbox/signalbox/zzlaws_internal_config_b1.FnPlainTagIntOnlyForCanonicalDecimals", spec := "fnPlainTagIntOnlyForCanonicalDecimals", apart := false }
def FnPlainTagIntOnlyForCanonicalDecimalsSaid : Prop := fnPlainTagIntOnlyForCanonicalDecimalsRow.holds Try.pinned (OpenSpec.ofChange fnPlainTagIntOnlyForCanonicalDecimalsSpec)

/-- ITS FALSE NEIGHBOUR: 'it returns false'. Refute it at one input. -/
def fnPlainTagIntOnlyForCanonicalDecimalsWrong : ChangeSpec := { name := "fnPlainTagIntOnlyForCanonicalDecimals", fn := fun _ => fun
  | [d] => { results := [.lit (.bool false)], args := [d] }
  | _ => none }
def FnPlainTagIntOnlyForCanonicalDecimalsWrongFalsely : Prop := fnPlainTagIntOnlyForCanonicalDecimalsRow.holds Try.pinned (OpenSpec.ofChange fnPlainTagIntOnlyForCanonicalDecimalsWrong)

/-- 'zzlaws_internal_config_b1.FnPlainTagDigitLedNonIntegers': WHATEVER THE INPUT: true; the input reads as it did. -/
def fnPlainTagDigitLedNonIntegersSpec : ChangeSpec := { name := "fnPlainTagDigitLedNonIntegers", fn := fun _ => fun
  | [d1, d2, d3, d4, d5, d6] => { results := [.lit (.bool true)], args := [d1, d2, d3, d4, d5, d6] }
  | _ => none }
def fnPlainTagDigitLedNonIntegersRow : OpenClaim := { program := "qxb6000759a", sum := "644be48b846fa25c755a09b6d215b64f04fa7d364c7be95b7b9a8f4f407fde3e", func := "example.com/signalbox/signalbox/zzlaws_internal_config_b1.FnPlainTagDigitLedNonIntegers", spec := "fnPlainTagDigitLedNonIntegers", apart := false }
def FnPlainTagDigitLedNonIntegersSaid : Prop := fnPlainTagDigitLedNonIntegersRow.holds Try.pinned (OpenSpec.ofChange fnPlainTagDigitLedNonIntegersSpec)

/-- ITS FALSE NEIGHBOUR: 'it returns false'. Refute it at one input. -/
def fnPlainTagDigitLedNonIntegersWrong : ChangeSpec := { name := "fnPlainTagDigitLedNonIntegers", fn := fun _ => fun
  | [d1, d2, d3, d4, d5, d6] => { results := [.lit (.bool false)], args := [d1, d2, d3, d4, d5, d6] }
  | _ => none }
def FnPlainTagDigitLedNonIntegersWrongFalsely : Prop := fnPlainTagDigitLedNonIntegersRow.holds Try.pinned (OpenSpec.ofChange fnPlainTagDigitLedNonIntegersWrong)

/-- 'zzlaws_internal_config_b1.FnValueEndSpansEncodedValue': WHATEVER THE INPUT: true; the input reads as it did. -/
def fnValueEndSpansEncodedValueSpec : ChangeSpec := { name := "fnValueEndSpansEncodedValue", fn := fun _ => fun
  | [d1, d2, d3, d4, d5] => { results := [.lit (.bool true)], args := [d1, d2, d3, d4, d5] }
  | _ => none }
def fnValueEndSpansEncodedValueRow : OpenClaim := { program := "qxb6000759a", sum := "644be48b846fa25c755a09b6d215b64f04fa7d364c7be95b7b9a8f4f407fde3e", func := "example.com/signalbox/signalbox/zzlaws_internal_config_b1.FnValueEndSpansEncodedValue", spec := "fnValueEndSpansEncodedValue", inPlace := ["internal/bytealg.IndexByte"], apart := false }
def FnValueEndSpansEncodedValueSaid : Prop := fnValueEndSpansEncodedValueRow.holds Try.pinned (OpenSpec.ofChange fnValueEndSpansEncodedValueSpec)

/-- ITS FALSE NEIGHBOUR: 'it returns false'. Refute it at one input. -/
def fnValueEndSpansEncodedValueWrong : ChangeSpec := { name := "fnValueEndSpansEncodedValue", fn := fun _ => fun
  | [d1, d2, d3, d4, d5] => { results := [.lit (.bool false)], args := [d1, d2, d3, d4, d5] }
  | _ => none }
def FnValueEndSpansEncodedValueWrongFalsely : Prop := fnValueEndSpansEncodedValueRow.holds Try.pinned (OpenSpec.ofChange fnValueEndSpansEncodedValueWrong)

/-- 'zzlaws_internal_config_b1.FnValueEndStepsThroughArrayElements': WHATEVER THE INPUT: true; the input reads as it did. -/
def fnValueEndStepsThroughArrayElementsSpec : ChangeSpec := { name := "fnValueEndStepsThroughArrayElements", fn := fun _ => fun
  | [d1, d2, d3] => { results := [.lit (.bool true)], args := [d1, d2, d3] }
  | _ => none }
def fnValueEndStepsThroughArrayElementsRow : OpenClaim := { program := "qxb6000759a", sum := "644be48b846fa25c755a09b6d215b64f04fa7d364c7be95b7b9a8f4f407fde3e", func := "example.com/signalbox/signalbox/zzlaws_internal_config_b1.FnValueEndStepsThroughArrayElements", spec := "fnValueEndStepsThroughArrayElements", inPlace := ["internal/bytealg.IndexByte"], apart := false }
def FnValueEndStepsThroughArrayElementsSaid : Prop := fnValueEndStepsThroughArrayElementsRow.holds Try.pinned (OpenSpec.ofChange fnValueEndStepsThroughArrayElementsSpec)

/-- ITS FALSE NEIGHBOUR: 'it returns false'. Refute it at one input. -/
def fnValueEndStepsThroughArrayElementsWrong : ChangeSpec := { name := "fnValueEndStepsThroughArrayElements", fn := fun _ => fun
  | [d1, d2, d3] => { results := [.lit (.bool false)], args := [d1, d2, d3] }
  | _ => none }
def FnValueEndStepsThroughArrayElementsWrongFalsely : Prop := fnValueEndStepsThroughArrayElementsRow.holds Try.pinned (OpenSpec.ofChange fnValueEndStepsThroughArrayElementsWrong)

end Rows
end Go.Proofs.Qxb6000759a

/-
  No cell of these rows narrows 'for every input' (looked for: loops, veiled, ifaces, maps, wideKeys, modest, calm, conditions, laid).
  DERIVED. THE GIVEN ROWS OF THIS SEAT. 10 by the template 'for every input the law returns true; each argument reads behind the call as it read before'; 0 by the template 'total and deterministic' (their statements: Qxb6001216aTotals.lean).
  GIVEN WITH THE SEED: the statements are not yours to turn. If you find one false, say at which input.
  Laid BY PROGRAM, IN A SANDBOX (cutbox-rows.mjs): the forced cells as the released guide's own fill.sh prints them over the translation 83254400224cf9e3… (all of the seat's roots in one cut). By AI agents, Wed Nov 11 2026. No macro, syntax, notation, axiom, sorry.
-/
import Derived.Test.Qxb6001216aChecked
import GoSem.Claim
import GoSem.ClaimJoined
import GoSem.ClaimMapViews
import Derived.JoinedTies
import Derived.KernelRfl
namespace Go.Proofs.Qxb6001216a
/- THE CELL 'sum', in the pinned program and in every row, IS THE sha256 OF THE DUMP (.gsa) THAT Qxb6001216aProg.lean LOADS. Nothing in Lean hashes anything: it is a label: what it is worth is what the hold of that sum in a sandbox is worth. -/
noncomputable def Try.pinned : Pinned := { name := "qxb6001216a", sum := "83254400224cf9e3623fa1860da2a3a42e638ec5b547912f1102568ac4b16530", checked := Try.checked }
namespace Rows
def none {H : Type} : Left H := { results := [], args := [] }

/-- 'zzlaws_internal_decimal_b1.FnAllDigitsConcat': WHATEVER THE INPUT: true; the input reads as it did. -/
def fnAllDigitsConcatSpec : ChangeSpec := { name := "fnAllDigitsConcat", fn := fun _ => fun
  | [d1, d2] => { results := [.lit (.bool true)], args := [d1, d2] }
  | _ => none }
def fnAllDigitsConcatRow : OpenClaim := { program := "qxb6001216a", sum := "83254400224cf9e3623fa1860da2a3a42e638ec5b547912f1102568ac4b16530", func := "example.com/noteweave/noteweave/zzlaws_internal_decimal_b1.FnAllDigitsConcat", spec := "fnAllDigitsConcat", apart := false }
def FnAllDigitsConcatSaid : Prop := fnAllDigitsConcatRow.holds Try.pinned (OpenSpec.ofChange fnAllDigitsConcatSpec)

/-- ITS FALSE NEIGHBOUR: 'it returns false'. Refute it at one input. -/
def fnAllDigitsConcatWrong : ChangeSpec := { name := "fnAllDigitsConcat", fn := fun _ => fun
  | [d1, d2] => { results := [.lit (.bool false)], args := [d1, d2] }
  | _ => none }
def FnAllDigitsConcatWrongFalsely : Prop := fnAllDigitsConcatRow.holds Try.pinned (OpenSpec.ofChange fnAllDigitsConcatWrong)

/-- 'zzlaws_internal_decimal_b1.FnAllDigitsDecimalRendering': WHATEVER THE INPUT: true; the input reads as it did. -/
def fnAllDigitsDecimalRenderingSpec : ChangeSpec := { name := "fnAllDigitsDecimalRendering", fn := fun _ => fun
  | [d1, d2, d3] => { results := [.lit (.bool true)], args := [d1, d2, d3] }
  | _ => none }
def fnAllDigitsDecimalRenderingRow : OpenClaim := { program := "qxb6001216a", sum := "83254400224cf9e3623fa1860da2a3a42e638ec5b547912f1102568ac4b16530", func := "example.com/noteweave/noteweave/zzlaws_internal_decimal_b1.FnAllDigitsDecimalRendering", spec := "fnAllDigitsDecimalRendering", apart := false }
def FnAllDigitsDecimalRenderingSaid : Prop := fnAllDigitsDecimalRenderingRow.holds Try.pinned (OpenSpec.ofChange fnAllDigitsDecimalRenderingSpec)

/-- ITS FALSE NEIGHBOUR: 'it returns false'. Refute it at one input. -/
def fnAllDigitsDecimalRenderingWrong : ChangeSpec := { name := "fnAllDigitsDecimalRendering", fn := fun _ => fun
  | [d1, d2, d3] => { results := [.lit (.bool false)], args := [d1, d2, d3] }
  | _ => none }
def FnAllDigitsDecimalRenderingWrongFalsely : Prop := fnAllDigitsDecimalRenderingRow.holds Try.pinned (OpenSpec.ofChange fnAllDigitsDecimalRenderingWrong)

/-- 'zzlaws_internal_decimal_b1.FnAllDigitsAgreesWithPlainDigits': WHATEVER THE INPUT: true; the input reads as it did. -/
def fnAllDigitsAgreesWithPlainDigitsSpec : ChangeSpec := { name := "fnAllDigitsAgreesWithPlainDigits", fn := fun _ => fun
  | [d] => { results := [.lit (.bool true)], args := [d] }
  | _ => none }
def fnAllDigitsAgreesWithPlainDigitsRow : OpenClaim := { program := "qxb6001216a", sum := "83254400224cf9e3623fa1860da2a3a42e638ec5b547912f1102568ac4b16530", func := "example.com/noteweave/noteweave/zzlaws_internal_decimal_b1.FnAllDigitsAgreesWithPlainDigits", spec := "fnAllDigitsAgreesWithPlainDigits", inPlace := ["internal/bytealg.IndexByteString", "internal/bytealg.IndexString"], named := ["internal/bytealg.MaxLen"], apart := false }
def FnAllDigitsAgreesWithPlainDigitsSaid : Prop := fnAllDigitsAgreesWithPlainDigitsRow.holds Try.pinned (OpenSpec.ofChange fnAllDigitsAgreesWithPlainDigitsSpec)

/-- ITS FALSE NEIGHBOUR: 'it returns false'. Refute it at one input. -/
def fnAllDigitsAgreesWithPlainDigitsWrong : ChangeSpec := { name := "fnAllDigitsAgreesWithPlainDigits", fn := fun _ => fun
  | [d] => { results := [.lit (.bool false)], args := [d] }
  | _ => none }
def FnAllDigitsAgreesWithPlainDigitsWrongFalsely : Prop := fnAllDigitsAgreesWithPlainDigitsRow.holds Try.pinned (OpenSpec.ofChange fnAllDigitsAgreesWithPlainDigitsWrong)

/-- 'zzlaws_internal_decimal_b1.FnPlainDigitsRoundTrip': WHATEVER THE INPUT: true; the input reads as it did. -/
def fnPlainDigitsRoundTripSpec : ChangeSpec := { name := "fnPlainDigitsRoundTrip", fn := fun _ => fun
  | [d] => { results := [.lit (.bool true)], args := [d] }
  | _ => none }
def fnPlainDigitsRoundTripRow : OpenClaim := { program := "qxb6001216a", sum := "83254400224cf9e3623fa1860da2a3a42e638ec5b547912f1102568ac4b16530", func := "example.com/noteweave/noteweave/zzlaws_internal_decimal_b1.FnPlainDigitsRoundTrip", spec := "fnPlainDigitsRoundTrip", inPlace := ["internal/bytealg.IndexByteString", "internal/bytealg.IndexString"], named := ["internal/bytealg.MaxLen"], apart := false }
def FnPlainDigitsRoundTripSaid : Prop := fnPlainDigitsRoundTripRow.holds Try.pinned (OpenSpec.ofChange fnPlainDigitsRoundTripSpec)

/-- ITS FALSE NEIGHBOUR: 'it returns false'. Refute it at one input. -/
def fnPlainDigitsRoundTripWrong : ChangeSpec := { name := "fnPlainDigitsRoundTrip", fn := fun _ => fun
  | [d] => { results := [.lit (.bool false)], args := [d] }
  | _ => none }
def FnPlainDigitsRoundTripWrongFalsely : Prop := fnPlainDigitsRoundTripRow.holds Try.pinned (OpenSpec.ofChange fnPlainDigitsRoundTripWrong)

/-- 'zzlaws_internal_decimal_b1.FnPlainDigitsSignPrefix': WHATEVER THE INPUT: true; the input reads as it did. -/
def fnPlainDigitsSignPrefixSpec : ChangeSpec := { name := "fnPlainDigitsSignPrefix", fn := fun _ => fun
  | [d] => { results := [.lit (.bool true)], args := [d] }
  | _ => none }
def fnPlainDigitsSignPrefixRow : OpenClaim := { program := "qxb6001216a", sum := "83254400224cf9e3623fa1860da2a3a42e638ec5b547912f1102568ac4b16530", func := "example.com/noteweave/noteweave/zzlaws_internal_decimal_b1.FnPlainDigitsSignPrefix", spec := "fnPlainDigitsSignPrefix", inPlace := ["internal/bytealg.IndexByteString", "internal/bytealg.IndexString"], named := ["internal/bytealg.MaxLen"], apart := false }
def FnPlainDigitsSignPrefixSaid : Prop := fnPlainDigitsSignPrefixRow.holds Try.pinned (OpenSpec.ofChange fnPlainDigitsSignPrefixSpec)

/-- ITS FALSE NEIGHBOUR: 'it returns false'. Refute it at one input. -/
def fnPlainDigitsSignPrefixWrong : ChangeSpec := { name := "fnPlainDigitsSignPrefix", fn := fun _ => fun
  | [d] => { results := [.lit (.bool false)], args := [d] }
  | _ => none }
def FnPlainDigitsSignPrefixWrongFalsely : Prop := fnPlainDigitsSignPrefixRow.holds Try.pinned (OpenSpec.ofChange fnPlainDigitsSignPrefixWrong)

/-- 'zzlaws_internal_decimal_b1.FnPlainDigitsAcceptsBuilt': WHATEVER THE INPUT: true; the input reads as it did. -/
def fnPlainDigitsAcceptsBuiltSpec : ChangeSpec := { name := "fnPlainDigitsAcceptsBuilt", fn := fun _ => fun
  | [d1, d2, d3, d4, d5, d6] => { results := [.lit (.bool true)], args := [d1, d2, d3, d4, d5, d6] }
  | _ => none }
def fnPlainDigitsAcceptsBuiltRow : OpenClaim := { program := "qxb6001216a", sum := "83254400224cf9e3623fa1860da2a3a42e638ec5b547912f1102568ac4b16530", func := "example.com/noteweave/noteweave/zzlaws_internal_decimal_b1.FnPlainDigitsAcceptsBuilt", spec := "fnPlainDigitsAcceptsBuilt", inPlace := ["internal/bytealg.IndexByteString", "internal/bytealg.IndexString"], named := ["internal/bytealg.MaxLen"], apart := false }
def FnPlainDigitsAcceptsBuiltSaid : Prop := fnPlainDigitsAcceptsBuiltRow.holds Try.pinned (OpenSpec.ofChange fnPlainDigitsAcceptsBuiltSpec)

/-- ITS FALSE NEIGHBOUR: 'it returns false'. Refute it at one input. -/
def fnPlainDigitsAcceptsBuiltWrong : ChangeSpec := { name := "fnPlainDigitsAcceptsBuilt", fn := fun _ => fun
  | [d1, d2, d3, d4, d5, d6] => { results := [.lit (.bool false)], args := [d1, d2, d3, d4, d5, d6] }
  | _ => none }
def FnPlainDigitsAcceptsBuiltWrongFalsely : Prop := fnPlainDigitsAcceptsBuiltRow.holds Try.pinned (OpenSpec.ofChange fnPlainDigitsAcceptsBuiltWrong)

/-- 'zzlaws_internal_decimal_b1.FnPlainDigitsRefusesMisplacedPoints': WHATEVER THE INPUT: true; the input reads as it did. -/
def fnPlainDigitsRefusesMisplacedPointsSpec : ChangeSpec := { name := "fnPlainDigitsRefusesMisplacedPoints", fn := fun _ => fun
  | [d1, d2, d3] => { results := [.lit (.bool true)], args := [d1, d2, d3] }
  | _ => none }
def fnPlainDigitsRefusesMisplacedPointsRow : OpenClaim := { program := "qxb6001216a", sum := "83254400224cf9e3623fa1860da2a3a42e638ec5b547912f1102568ac4b16530", func := "example.com/noteweave/noteweave/zzlaws_internal_decimal_b1.FnPlainDigitsRefusesMisplacedPoints", spec := "fnPlainDigitsRefusesMisplacedPoints", inPlace := ["internal/bytealg.IndexByteString", "internal/bytealg.IndexString"], named := ["internal/bytealg.MaxLen"], apart := false }
def FnPlainDigitsRefusesMisplacedPointsSaid : Prop := fnPlainDigitsRefusesMisplacedPointsRow.holds Try.pinned (OpenSpec.ofChange fnPlainDigitsRefusesMisplacedPointsSpec)

/-- ITS FALSE NEIGHBOUR: 'it returns false'. Refute it at one input. -/
def fnPlainDigitsRefusesMisplacedPointsWrong : ChangeSpec := { name := "fnPlainDigitsRefusesMisplacedPoints", fn := fun _ => fun
  | [d1, d2, d3] => { results := [.lit (.bool false)], args := [d1, d2, d3] }
  | _ => none }
def FnPlainDigitsRefusesMisplacedPointsWrongFalsely : Prop := fnPlainDigitsRefusesMisplacedPointsRow.holds Try.pinned (OpenSpec.ofChange fnPlainDigitsRefusesMisplacedPointsWrong)

/-- 'zzlaws_internal_decimal_b1.FnGcdDividesBoth': WHATEVER THE INPUT: true; the input reads as it did. -/
def fnGcdDividesBothSpec : ChangeSpec := { name := "fnGcdDividesBoth", fn := fun _ => fun
  | [d1, d2] => { results := [.lit (.bool true)], args := [d1, d2] }
  | _ => none }
def fnGcdDividesBothRow : OpenClaim := { program := "qxb6001216a", sum := "83254400224cf9e3623fa1860da2a3a42e638ec5b547912f1102568ac4b16530", func := "example.com/noteweave/noteweave/zzlaws_internal_decimal_b1.FnGcdDividesBoth", spec := "fnGcdDividesBoth", apart := false }
def FnGcdDividesBothSaid : Prop := fnGcdDividesBothRow.holds Try.pinned (OpenSpec.ofChange fnGcdDividesBothSpec)

/-- ITS FALSE NEIGHBOUR: 'it returns false'. Refute it at one input. -/
def fnGcdDividesBothWrong : ChangeSpec := { name := "fnGcdDividesBoth", fn := fun _ => fun
  | [d1, d2] => { results := [.lit (.bool false)], args := [d1, d2] }
  | _ => none }
def FnGcdDividesBothWrongFalsely : Prop := fnGcdDividesBothRow.holds Try.pinned (OpenSpec.ofChange fnGcdDividesBothWrong)

/-- 'zzlaws_internal_decimal_b1.FnGcdGreatest': WHATEVER THE INPUT: true; the input reads as it did. -/
def fnGcdGreatestSpec : ChangeSpec := { name := "fnGcdGreatest", fn := fun _ => fun
  | [d1, d2, d3] => { results := [.lit (.bool true)], args := [d1, d2, d3] }
  | _ => none }
def fnGcdGreatestRow : OpenClaim := { program := "qxb6001216a", sum := "83254400224cf9e3623fa1860da2a3a42e638ec5b547912f1102568ac4b16530", func := "example.com/noteweave/noteweave/zzlaws_internal_decimal_b1.FnGcdGreatest", spec := "fnGcdGreatest", apart := false }
def FnGcdGreatestSaid : Prop := fnGcdGreatestRow.holds Try.pinned (OpenSpec.ofChange fnGcdGreatestSpec)

/-- ITS FALSE NEIGHBOUR: 'it returns false'. Refute it at one input. -/
def fnGcdGreatestWrong : ChangeSpec := { name := "fnGcdGreatest", fn := fun _ => fun
  | [d1, d2, d3] => { results := [.lit (.bool false)], args := [d1, d2, d3] }
  | _ => none }
def FnGcdGreatestWrongFalsely : Prop := fnGcdGreatestRow.holds Try.pinned (OpenSpec.ofChange fnGcdGreatestWrong)

/-- 'zzlaws_internal_decimal_b1.FnGcdSubtraction': WHATEVER THE INPUT: true; the input reads as it did. -/
def fnGcdSubtractionSpec : ChangeSpec := { name := "fnGcdSubtraction", fn := fun _ => fun
  | [d1, d2] => { results := [.lit (.bool true)], args := [d1, d2] }
  | _ => none }
def fnGcdSubtractionRow : OpenClaim := { program := "qxb6001216a", sum := "83254400224cf9e3623fa1860da2a3a42e638ec5b547912f1102568ac4b16530", func := "example.com/noteweave/noteweave/zzlaws_internal_decimal_b1.FnGcdSubtraction", spec := "fnGcdSubtraction", apart := false }
def FnGcdSubtractionSaid : Prop := fnGcdSubtractionRow.holds Try.pinned (OpenSpec.ofChange fnGcdSubtractionSpec)

/-- ITS FALSE NEIGHBOUR: 'it returns false'. Refute it at one input. -/
def fnGcdSubtractionWrong : ChangeSpec := { name := "fnGcdSubtraction", fn := fun _ => fun
  | [d1, d2] => { results := [.lit (.bool false)], args := [d1, d2] }
  | _ => none }
def FnGcdSubtractionWrongFalsely : Prop := fnGcdSubtractionRow.holds Try.pinned (OpenSpec.ofChange fnGcdSubtractionWrong)

end Rows
end Go.Proofs.Qxb6001216a

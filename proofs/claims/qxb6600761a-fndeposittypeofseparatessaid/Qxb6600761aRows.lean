/-
  No cell of these rows narrows 'for every input' (looked for: loops, veiled, ifaces, maps, wideKeys, modest, calm, conditions, laid).
  DERIVED. THE GIVEN ROWS OF THIS SEAT. 6 by the template 'for every input the law returns true; each argument reads behind the call as it read before'; 0 by the template 'total and deterministic' (their statements: Qxb6600761aTotals.lean).
  GIVEN WITH THE SEED: the statements are not yours to turn. If you find one false, say at which input.
  Laid BY PROGRAM, IN A SANDBOX (cutbox-rows.mjs): the forced cells as the released guide's own fill.sh prints them over the translation 00523cebf2687aa5… (all of the seat's roots in one cut). By AI agents, Wed Nov 11 2026. No macro, syntax, notation, axiom, sorry.
-/
import Derived.Test.Qxb6600761aChecked
import GoSem.Claim
import GoSem.ClaimJoined
import GoSem.ClaimMapViews
import Derived.JoinedTies
import Derived.KernelRfl
namespace Go.Proofs.Qxb6600761a
/- THE CELL 'sum', in the pinned program and in every row, IS THE sha256 OF THE DUMP (.gsa) THAT Qxb6600761aProg.lean LOADS. Nothing in Lean hashes anything: it is a label: what it is worth is what the hold of that sum in a sandbox is worth. -/
noncomputable def Try.pinned : Pinned := { name := "qxb6600761a", sum := "00523cebf2687aa5df1770ba89b79ed4e100b65587219f622ff1ff1b61cec705", checked := Try.checked }
namespace Rows
def none {H : Type} : Left H := { results := [], args := [] }

/-- 'zzlaws_reserve_b1.FnMonthDaysExact': WHATEVER THE INPUT: true; the input reads as it did. -/
def fnMonthDaysExactSpec : ChangeSpec := { name := "fnMonthDaysExact", fn := fun _ => fun
  | [d] => { results := [.lit (.bool true)], args := [d] }
  | _ => none }
def fnMonthDaysExactRow : OpenClaim := { program := "qxb6600761a", sum := "00523cebf2687aa5df1770ba89b79ed4e100b65587219f622ff1ff1b61cec705", func := "example.com/dutru/dutru/zzlaws_reserve_b1.FnMonthDaysExact", spec := "fnMonthDaysExact", apart := false }
def FnMonthDaysExactSaid : Prop := fnMonthDaysExactRow.holds Try.pinned (OpenSpec.ofChange fnMonthDaysExactSpec)

/-- ITS FALSE NEIGHBOUR: 'it returns false'. Refute it at one input. -/
def fnMonthDaysExactWrong : ChangeSpec := { name := "fnMonthDaysExact", fn := fun _ => fun
  | [d] => { results := [.lit (.bool false)], args := [d] }
  | _ => none }
def FnMonthDaysExactWrongFalsely : Prop := fnMonthDaysExactRow.holds Try.pinned (OpenSpec.ofChange fnMonthDaysExactWrong)

/-- 'zzlaws_reserve_b1.FnMonthDaysFourHundredYears': WHATEVER THE INPUT: true; the input reads as it did. -/
def fnMonthDaysFourHundredYearsSpec : ChangeSpec := { name := "fnMonthDaysFourHundredYears", fn := fun _ => fun
  | [d] => { results := [.lit (.bool true)], args := [d] }
  | _ => none }
def fnMonthDaysFourHundredYearsRow : OpenClaim := { program := "qxb6600761a", sum := "00523cebf2687aa5df1770ba89b79ed4e100b65587219f622ff1ff1b61cec705", func := "example.com/dutru/dutru/zzlaws_reserve_b1.FnMonthDaysFourHundredYears", spec := "fnMonthDaysFourHundredYears", apart := false }
def FnMonthDaysFourHundredYearsSaid : Prop := fnMonthDaysFourHundredYearsRow.holds Try.pinned (OpenSpec.ofChange fnMonthDaysFourHundredYearsSpec)

/-- ITS FALSE NEIGHBOUR: 'it returns false'. Refute it at one input. -/
def fnMonthDaysFourHundredYearsWrong : ChangeSpec := { name := "fnMonthDaysFourHundredYears", fn := fun _ => fun
  | [d] => { results := [.lit (.bool false)], args := [d] }
  | _ => none }
def FnMonthDaysFourHundredYearsWrongFalsely : Prop := fnMonthDaysFourHundredYearsRow.holds Try.pinned (OpenSpec.ofChange fnMonthDaysFourHundredYearsWrong)

/-- 'zzlaws_reserve_b1.FnDepositTypeOfSeparates': WHATEVER THE INPUT: true; the input reads as it did. -/
def fnDepositTypeOfSeparatesSpec : ChangeSpec := { name := "fnDepositTypeOfSeparates", fn := fun _ => fun
  | [d1, d2, d3, d4] => { results := [.lit (.bool true)], args := [d1, d2, d3, d4] }
  | _ => none }
def fnDepositTypeOfSeparatesRow : OpenClaim := { program := "qxb6600761a", sum := "00523cebf2687aa5df1770ba89b79ed4e100b65587219f622ff1ff1b61cec705", func := "example.com/dutru/dutru/zzlaws_reserve_b1.FnDepositTypeOfSeparates", spec := "fnDepositTypeOfSeparates", apart := false }
def FnDepositTypeOfSeparatesSaid : Prop := fnDepositTypeOfSeparatesRow.holds Try.pinned (OpenSpec.ofChange fnDepositTypeOfSeparatesSpec)

/-- ITS FALSE NEIGHBOUR: 'it returns false'. Refute it at one input. -/
def fnDepositTypeOfSeparatesWrong : ChangeSpec := { name := "fnDepositTypeOfSeparates", fn := fun _ => fun
  | [d1, d2, d3, d4] => { results := [.lit (.bool false)], args := [d1, d2, d3, d4] }
  | _ => none }
def FnDepositTypeOfSeparatesWrongFalsely : Prop := fnDepositTypeOfSeparatesRow.holds Try.pinned (OpenSpec.ofChange fnDepositTypeOfSeparatesWrong)

/-- 'zzlaws_reserve_b1.FnParseDigitsExact': WHATEVER THE INPUT: true; the input reads as it did. -/
def fnParseDigitsExactSpec : ChangeSpec := { name := "fnParseDigitsExact", fn := fun _ => fun
  | [d] => { results := [.lit (.bool true)], args := [d] }
  | _ => none }
def fnParseDigitsExactRow : OpenClaim := { program := "qxb6600761a", sum := "00523cebf2687aa5df1770ba89b79ed4e100b65587219f622ff1ff1b61cec705", func := "example.com/dutru/dutru/zzlaws_reserve_b1.FnParseDigitsExact", spec := "fnParseDigitsExact", apart := false }
def FnParseDigitsExactSaid : Prop := fnParseDigitsExactRow.holds Try.pinned (OpenSpec.ofChange fnParseDigitsExactSpec)

/-- ITS FALSE NEIGHBOUR: 'it returns false'. Refute it at one input. -/
def fnParseDigitsExactWrong : ChangeSpec := { name := "fnParseDigitsExact", fn := fun _ => fun
  | [d] => { results := [.lit (.bool false)], args := [d] }
  | _ => none }
def FnParseDigitsExactWrongFalsely : Prop := fnParseDigitsExactRow.holds Try.pinned (OpenSpec.ofChange fnParseDigitsExactWrong)

/-- 'zzlaws_reserve_b1.FnParseDigitsConcat': WHATEVER THE INPUT: true; the input reads as it did. -/
def fnParseDigitsConcatSpec : ChangeSpec := { name := "fnParseDigitsConcat", fn := fun _ => fun
  | [d1, d2] => { results := [.lit (.bool true)], args := [d1, d2] }
  | _ => none }
def fnParseDigitsConcatRow : OpenClaim := { program := "qxb6600761a", sum := "00523cebf2687aa5df1770ba89b79ed4e100b65587219f622ff1ff1b61cec705", func := "example.com/dutru/dutru/zzlaws_reserve_b1.FnParseDigitsConcat", spec := "fnParseDigitsConcat", apart := false }
def FnParseDigitsConcatSaid : Prop := fnParseDigitsConcatRow.holds Try.pinned (OpenSpec.ofChange fnParseDigitsConcatSpec)

/-- ITS FALSE NEIGHBOUR: 'it returns false'. Refute it at one input. -/
def fnParseDigitsConcatWrong : ChangeSpec := { name := "fnParseDigitsConcat", fn := fun _ => fun
  | [d1, d2] => { results := [.lit (.bool false)], args := [d1, d2] }
  | _ => none }
def FnParseDigitsConcatWrongFalsely : Prop := fnParseDigitsConcatRow.holds Try.pinned (OpenSpec.ofChange fnParseDigitsConcatWrong)

/-- 'zzlaws_reserve_b1.FnParseDigitsRoundTrip': WHATEVER THE INPUT: true; the input reads as it did. -/
def fnParseDigitsRoundTripSpec : ChangeSpec := { name := "fnParseDigitsRoundTrip", fn := fun _ => fun
  | [d1, d2] => { results := [.lit (.bool true)], args := [d1, d2] }
  | _ => none }
def fnParseDigitsRoundTripRow : OpenClaim := { program := "qxb6600761a", sum := "00523cebf2687aa5df1770ba89b79ed4e100b65587219f622ff1ff1b61cec705", func := "example.com/dutru/dutru/zzlaws_reserve_b1.FnParseDigitsRoundTrip", spec := "fnParseDigitsRoundTrip", apart := false }
def FnParseDigitsRoundTripSaid : Prop := fnParseDigitsRoundTripRow.holds Try.pinned (OpenSpec.ofChange fnParseDigitsRoundTripSpec)

/-- ITS FALSE NEIGHBOUR: 'it returns false'. Refute it at one input. -/
def fnParseDigitsRoundTripWrong : ChangeSpec := { name := "fnParseDigitsRoundTrip", fn := fun _ => fun
  | [d1, d2] => { results := [.lit (.bool false)], args := [d1, d2] }
  | _ => none }
def FnParseDigitsRoundTripWrongFalsely : Prop := fnParseDigitsRoundTripRow.holds Try.pinned (OpenSpec.ofChange fnParseDigitsRoundTripWrong)

end Rows
end Go.Proofs.Qxb6600761a

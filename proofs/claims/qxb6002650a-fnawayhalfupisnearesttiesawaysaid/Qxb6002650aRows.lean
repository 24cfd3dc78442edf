/-
  No cell of these rows narrows 'for every input' (looked for: loops, veiled, ifaces, maps, wideKeys, modest, calm, conditions, laid).
  DERIVED. THE GIVEN ROWS OF THIS SEAT. 9 by the template 'for every input the law returns true; each argument reads behind the call as it read before'; 0 by the template 'total and deterministic' (their statements: Qxb6002650aTotals.lean).
  GIVEN WITH THE SEED: the statements are not yours to turn. If you find one false, say at which input.
  Laid BY PROGRAM, IN A SANDBOX (cutbox-rows.mjs): the forced cells as the released guide's own fill.sh prints them over the translation e27221ffef7d121e… (all of the seat's roots in one cut). By AI agents, Wed Nov 11 2026. No macro, syntax, notation, axiom, sorry.
-/
import Derived.Test.Qxb6002650aChecked
import GoSem.Claim
import GoSem.ClaimJoined
import GoSem.ClaimMapViews
import Derived.JoinedTies
import Derived.KernelRfl
namespace Go.Proofs.Qxb6002650a
/- THE CELL 'sum', in the pinned program and in every row, IS THE sha256 OF THE DUMP (.gsa) THAT Qxb6002650aProg.lean LOADS. Nothing in Lean hashes anything: it is a label: what it is worth is what the hold of that sum in a sandbox is worth. -/
noncomputable def Try.pinned : Pinned := { name := "qxb6002650a", sum := "e27221ffef7d121e6a47474dcc32058fabf906b1c800aa3c8a28127276346d61", checked := Try.checked }
namespace Rows
def none {H : Type} : Left H := { results := [], args := [] }

/-- 'zzlaws_decimal_b1.FnIsDigitsConcat': WHATEVER THE INPUT: true; the input reads as it did. -/
def fnIsDigitsConcatSpec : ChangeSpec := { name := "fnIsDigitsConcat", fn := fun _ => fun
  | [d1, d2] => { results := [.lit (.bool true)], args := [d1, d2] }
  | _ => none }
def fnIsDigitsConcatRow : OpenClaim := { program := "qxb6002650a", sum := "e27221ffef7d121e6a47474dcc32058fabf906b1c800aa3c8a28127276346d61", func := "example.com/zhaomu/zhaomu/zzlaws_decimal_b1.FnIsDigitsConcat", spec := "fnIsDigitsConcat", apart := false }
def FnIsDigitsConcatSaid : Prop := fnIsDigitsConcatRow.holds Try.pinned (OpenSpec.ofChange fnIsDigitsConcatSpec)

/-- ITS FALSE NEIGHBOUR: 'it returns false'. Refute it at one input. -/
def fnIsDigitsConcatWrong : ChangeSpec := { name := "fnIsDigitsConcat", fn := fun _ => fun
  | [d1, d2] => { results := [.lit (.bool false)], args := [d1, d2] }
  | _ => none }
def FnIsDigitsConcatWrongFalsely : Prop := fnIsDigitsConcatRow.holds Try.pinned (OpenSpec.ofChange fnIsDigitsConcatWrong)

/-- 'zzlaws_decimal_b1.FnIsDigitsAcceptsNumerals': WHATEVER THE INPUT: true; the input reads as it did. -/
def fnIsDigitsAcceptsNumeralsSpec : ChangeSpec := { name := "fnIsDigitsAcceptsNumerals", fn := fun _ => fun
  | [d1, d2] => { results := [.lit (.bool true)], args := [d1, d2] }
  | _ => none }
def fnIsDigitsAcceptsNumeralsRow : OpenClaim := { program := "qxb6002650a", sum := "e27221ffef7d121e6a47474dcc32058fabf906b1c800aa3c8a28127276346d61", func := "example.com/zhaomu/zhaomu/zzlaws_decimal_b1.FnIsDigitsAcceptsNumerals", spec := "fnIsDigitsAcceptsNumerals", apart := false }
def FnIsDigitsAcceptsNumeralsSaid : Prop := fnIsDigitsAcceptsNumeralsRow.holds Try.pinned (OpenSpec.ofChange fnIsDigitsAcceptsNumeralsSpec)

/-- ITS FALSE NEIGHBOUR: 'it returns false'. Refute it at one input. -/
def fnIsDigitsAcceptsNumeralsWrong : ChangeSpec := { name := "fnIsDigitsAcceptsNumerals", fn := fun _ => fun
  | [d1, d2] => { results := [.lit (.bool false)], args := [d1, d2] }
  | _ => none }
def FnIsDigitsAcceptsNumeralsWrongFalsely : Prop := fnIsDigitsAcceptsNumeralsRow.holds Try.pinned (OpenSpec.ofChange fnIsDigitsAcceptsNumeralsWrong)

/-- 'zzlaws_decimal_b1.FnIsDigitsRefusesNonDigit': WHATEVER THE INPUT: true; the input reads as it did. -/
def fnIsDigitsRefusesNonDigitSpec : ChangeSpec := { name := "fnIsDigitsRefusesNonDigit", fn := fun _ => fun
  | [d1, d2, d3] => { results := [.lit (.bool true)], args := [d1, d2, d3] }
  | _ => none }
def fnIsDigitsRefusesNonDigitRow : OpenClaim := { program := "qxb6002650a", sum := "e27221ffef7d121e6a47474dcc32058fabf906b1c800aa3c8a28127276346d61", func := "example.com/zhaomu/zhaomu/zzlaws_decimal_b1.FnIsDigitsRefusesNonDigit", spec := "fnIsDigitsRefusesNonDigit", apart := false }
def FnIsDigitsRefusesNonDigitSaid : Prop := fnIsDigitsRefusesNonDigitRow.holds Try.pinned (OpenSpec.ofChange fnIsDigitsRefusesNonDigitSpec)

/-- ITS FALSE NEIGHBOUR: 'it returns false'. Refute it at one input. -/
def fnIsDigitsRefusesNonDigitWrong : ChangeSpec := { name := "fnIsDigitsRefusesNonDigit", fn := fun _ => fun
  | [d1, d2, d3] => { results := [.lit (.bool false)], args := [d1, d2, d3] }
  | _ => none }
def FnIsDigitsRefusesNonDigitWrongFalsely : Prop := fnIsDigitsRefusesNonDigitRow.holds Try.pinned (OpenSpec.ofChange fnIsDigitsRefusesNonDigitWrong)

/-- 'zzlaws_decimal_b1.FnMagnitudeInverse': WHATEVER THE INPUT: true; the input reads as it did. -/
def fnMagnitudeInverseSpec : ChangeSpec := { name := "fnMagnitudeInverse", fn := fun _ => fun
  | [d] => { results := [.lit (.bool true)], args := [d] }
  | _ => none }
def fnMagnitudeInverseRow : OpenClaim := { program := "qxb6002650a", sum := "e27221ffef7d121e6a47474dcc32058fabf906b1c800aa3c8a28127276346d61", func := "example.com/zhaomu/zhaomu/zzlaws_decimal_b1.FnMagnitudeInverse", spec := "fnMagnitudeInverse", apart := false }
def FnMagnitudeInverseSaid : Prop := fnMagnitudeInverseRow.holds Try.pinned (OpenSpec.ofChange fnMagnitudeInverseSpec)

/-- ITS FALSE NEIGHBOUR: 'it returns false'. Refute it at one input. -/
def fnMagnitudeInverseWrong : ChangeSpec := { name := "fnMagnitudeInverse", fn := fun _ => fun
  | [d] => { results := [.lit (.bool false)], args := [d] }
  | _ => none }
def FnMagnitudeInverseWrongFalsely : Prop := fnMagnitudeInverseRow.holds Try.pinned (OpenSpec.ofChange fnMagnitudeInverseWrong)

/-- 'zzlaws_decimal_b1.FnMagnitudeNegationSymmetric': WHATEVER THE INPUT: true; the input reads as it did. -/
def fnMagnitudeNegationSymmetricSpec : ChangeSpec := { name := "fnMagnitudeNegationSymmetric", fn := fun _ => fun
  | [d] => { results := [.lit (.bool true)], args := [d] }
  | _ => none }
def fnMagnitudeNegationSymmetricRow : OpenClaim := { program := "qxb6002650a", sum := "e27221ffef7d121e6a47474dcc32058fabf906b1c800aa3c8a28127276346d61", func := "example.com/zhaomu/zhaomu/zzlaws_decimal_b1.FnMagnitudeNegationSymmetric", spec := "fnMagnitudeNegationSymmetric", apart := false }
def FnMagnitudeNegationSymmetricSaid : Prop := fnMagnitudeNegationSymmetricRow.holds Try.pinned (OpenSpec.ofChange fnMagnitudeNegationSymmetricSpec)

/-- ITS FALSE NEIGHBOUR: 'it returns false'. Refute it at one input. -/
def fnMagnitudeNegationSymmetricWrong : ChangeSpec := { name := "fnMagnitudeNegationSymmetric", fn := fun _ => fun
  | [d] => { results := [.lit (.bool false)], args := [d] }
  | _ => none }
def FnMagnitudeNegationSymmetricWrongFalsely : Prop := fnMagnitudeNegationSymmetricRow.holds Try.pinned (OpenSpec.ofChange fnMagnitudeNegationSymmetricWrong)

/-- 'zzlaws_decimal_b1.FnMagnitudeMonotone': WHATEVER THE INPUT: true; the input reads as it did. -/
def fnMagnitudeMonotoneSpec : ChangeSpec := { name := "fnMagnitudeMonotone", fn := fun _ => fun
  | [d1, d2] => { results := [.lit (.bool true)], args := [d1, d2] }
  | _ => none }
def fnMagnitudeMonotoneRow : OpenClaim := { program := "qxb6002650a", sum := "e27221ffef7d121e6a47474dcc32058fabf906b1c800aa3c8a28127276346d61", func := "example.com/zhaomu/zhaomu/zzlaws_decimal_b1.FnMagnitudeMonotone", spec := "fnMagnitudeMonotone", apart := false }
def FnMagnitudeMonotoneSaid : Prop := fnMagnitudeMonotoneRow.holds Try.pinned (OpenSpec.ofChange fnMagnitudeMonotoneSpec)

/-- ITS FALSE NEIGHBOUR: 'it returns false'. Refute it at one input. -/
def fnMagnitudeMonotoneWrong : ChangeSpec := { name := "fnMagnitudeMonotone", fn := fun _ => fun
  | [d1, d2] => { results := [.lit (.bool false)], args := [d1, d2] }
  | _ => none }
def FnMagnitudeMonotoneWrongFalsely : Prop := fnMagnitudeMonotoneRow.holds Try.pinned (OpenSpec.ofChange fnMagnitudeMonotoneWrong)

/-- 'zzlaws_decimal_b1.FnAwayFloorIsFloor': WHATEVER THE INPUT: true; the input reads as it did. -/
def fnAwayFloorIsFloorSpec : ChangeSpec := { name := "fnAwayFloorIsFloor", fn := fun _ => fun
  | [d1, d2] => { results := [.lit (.bool true)], args := [d1, d2] }
  | _ => none }
def fnAwayFloorIsFloorRow : OpenClaim := { program := "qxb6002650a", sum := "e27221ffef7d121e6a47474dcc32058fabf906b1c800aa3c8a28127276346d61", func := "example.com/zhaomu/zhaomu/zzlaws_decimal_b1.FnAwayFloorIsFloor", spec := "fnAwayFloorIsFloor", apart := false }
def FnAwayFloorIsFloorSaid : Prop := fnAwayFloorIsFloorRow.holds Try.pinned (OpenSpec.ofChange fnAwayFloorIsFloorSpec)

/-- ITS FALSE NEIGHBOUR: 'it returns false'. Refute it at one input. -/
def fnAwayFloorIsFloorWrong : ChangeSpec := { name := "fnAwayFloorIsFloor", fn := fun _ => fun
  | [d1, d2] => { results := [.lit (.bool false)], args := [d1, d2] }
  | _ => none }
def FnAwayFloorIsFloorWrongFalsely : Prop := fnAwayFloorIsFloorRow.holds Try.pinned (OpenSpec.ofChange fnAwayFloorIsFloorWrong)

/-- 'zzlaws_decimal_b1.FnAwayHalfUpIsNearestTiesAway': WHATEVER THE INPUT: true; the input reads as it did. -/
def fnAwayHalfUpIsNearestTiesAwaySpec : ChangeSpec := { name := "fnAwayHalfUpIsNearestTiesAway", fn := fun _ => fun
  | [d1, d2] => { results := [.lit (.bool true)], args := [d1, d2] }
  | _ => none }
def fnAwayHalfUpIsNearestTiesAwayRow : OpenClaim := { program := "qxb6002650a", sum := "e27221ffef7d121e6a47474dcc32058fabf906b1c800aa3c8a28127276346d61", func := "example.com/zhaomu/zhaomu/zzlaws_decimal_b1.FnAwayHalfUpIsNearestTiesAway", spec := "fnAwayHalfUpIsNearestTiesAway", apart := false }
def FnAwayHalfUpIsNearestTiesAwaySaid : Prop := fnAwayHalfUpIsNearestTiesAwayRow.holds Try.pinned (OpenSpec.ofChange fnAwayHalfUpIsNearestTiesAwaySpec)

/-- ITS FALSE NEIGHBOUR: 'it returns false'. Refute it at one input. -/
def fnAwayHalfUpIsNearestTiesAwayWrong : ChangeSpec := { name := "fnAwayHalfUpIsNearestTiesAway", fn := fun _ => fun
  | [d1, d2] => { results := [.lit (.bool false)], args := [d1, d2] }
  | _ => none }
def FnAwayHalfUpIsNearestTiesAwayWrongFalsely : Prop := fnAwayHalfUpIsNearestTiesAwayRow.holds Try.pinned (OpenSpec.ofChange fnAwayHalfUpIsNearestTiesAwayWrong)

/-- 'zzlaws_decimal_b1.FnAwayHalfUpOdd': WHATEVER THE INPUT: true; the input reads as it did. -/
def fnAwayHalfUpOddSpec : ChangeSpec := { name := "fnAwayHalfUpOdd", fn := fun _ => fun
  | [d1, d2] => { results := [.lit (.bool true)], args := [d1, d2] }
  | _ => none }
def fnAwayHalfUpOddRow : OpenClaim := { program := "qxb6002650a", sum := "e27221ffef7d121e6a47474dcc32058fabf906b1c800aa3c8a28127276346d61", func := "example.com/zhaomu/zhaomu/zzlaws_decimal_b1.FnAwayHalfUpOdd", spec := "fnAwayHalfUpOdd", apart := false }
def FnAwayHalfUpOddSaid : Prop := fnAwayHalfUpOddRow.holds Try.pinned (OpenSpec.ofChange fnAwayHalfUpOddSpec)

/-- ITS FALSE NEIGHBOUR: 'it returns false'. Refute it at one input. -/
def fnAwayHalfUpOddWrong : ChangeSpec := { name := "fnAwayHalfUpOdd", fn := fun _ => fun
  | [d1, d2] => { results := [.lit (.bool false)], args := [d1, d2] }
  | _ => none }
def FnAwayHalfUpOddWrongFalsely : Prop := fnAwayHalfUpOddRow.holds Try.pinned (OpenSpec.ofChange fnAwayHalfUpOddWrong)

end Rows
end Go.Proofs.Qxb6002650a

/-
  No cell of these rows narrows 'for every input' (looked for: loops, veiled, ifaces, maps, wideKeys, modest, calm, conditions, laid).
  DERIVED. THE GIVEN ROWS OF THIS SEAT. 5 by the template 'for every input the law returns true; each argument reads behind the call as it read before'; 0 by the template 'total and deterministic' (their statements: Qxb6600928aModsTotals.lean).
  GIVEN WITH THE SEED: the statements are not yours to turn. If you find one false, say at which input.
  Laid BY PROGRAM, IN A SANDBOX (cutbox-rows.mjs): the forced cells as the released guide's own fill.sh prints them over the translation 7dd2a0b861702328… (all of the seat's roots in one cut). By AI agents, Wed Nov 11 2026. No macro, syntax, notation, axiom, sorry.
-/
import Derived.Test.Qxb6600928aModsChecked
import GoSem.Claim
import GoSem.ClaimJoined
import GoSem.ClaimMapViews
import Derived.JoinedTies
import Derived.KernelRfl
namespace Go.Proofs.Qxb6600928aMods
/- THE CELL 'sum', in the pinned program and in every row, IS THE sha256 OF THE DUMP (.gsa) THAT Qxb6600928aModsProg.lean LOADS. Nothing in Lean hashes anything: it is a label: what it is worth is what the hold of that sum in a sandbox is worth. -/
noncomputable def Trym.pinned : Pinned := { name := "qxb6600928amods", sum := "7dd2a0b8617023284821c7b7e8aef10fdbd43bac9a57108bee25bdb6fbb21921", checked := Trym.checked }
namespace Rows
def none {H : Type} : Left H := { results := [], args := [] }

/-- 'zzlaws_rangequery_b1.FnKindClassSizes': WHATEVER THE INPUT: true; the input reads as it did. -/
def fnKindClassSizesSpec : ChangeSpec := { name := "fnKindClassSizes", fn := fun _ => fun
  | [d] => { results := [.lit (.bool true)], args := [d] }
  | _ => none }
def fnKindClassSizesRow : OpenClaim := { program := "qxb6600928amods", sum := "7dd2a0b8617023284821c7b7e8aef10fdbd43bac9a57108bee25bdb6fbb21921", func := "example.com/tideline/tideline/zzlaws_rangequery_b1.FnKindClassSizes", spec := "fnKindClassSizes", make := .lifted ["publicsums"], apart := false }
def FnKindClassSizesSaid : Prop := fnKindClassSizesRow.holds Trym.pinned (OpenSpec.ofChange fnKindClassSizesSpec)

/-- ITS FALSE NEIGHBOUR: 'it returns false'. Refute it at one input. -/
def fnKindClassSizesWrong : ChangeSpec := { name := "fnKindClassSizes", fn := fun _ => fun
  | [d] => { results := [.lit (.bool false)], args := [d] }
  | _ => none }
def FnKindClassSizesWrongFalsely : Prop := fnKindClassSizesRow.holds Trym.pinned (OpenSpec.ofChange fnKindClassSizesWrong)

/-- 'zzlaws_rangequery_b1.FnKindOfJSONScalar': WHATEVER THE INPUT: true; the input reads as it did. -/
def fnKindOfJSONScalarSpec : ChangeSpec := { name := "fnKindOfJSONScalar", fn := fun _ => fun
  | [d] => { results := [.lit (.bool true)], args := [d] }
  | _ => none }
def fnKindOfJSONScalarRow : OpenClaim := { program := "qxb6600928amods", sum := "7dd2a0b8617023284821c7b7e8aef10fdbd43bac9a57108bee25bdb6fbb21921", func := "example.com/tideline/tideline/zzlaws_rangequery_b1.FnKindOfJSONScalar", spec := "fnKindOfJSONScalar", make := .lifted ["publicsums"], apart := false }
def FnKindOfJSONScalarSaid : Prop := fnKindOfJSONScalarRow.holds Trym.pinned (OpenSpec.ofChange fnKindOfJSONScalarSpec)

/-- ITS FALSE NEIGHBOUR: 'it returns false'. Refute it at one input. -/
def fnKindOfJSONScalarWrong : ChangeSpec := { name := "fnKindOfJSONScalar", fn := fun _ => fun
  | [d] => { results := [.lit (.bool false)], args := [d] }
  | _ => none }
def FnKindOfJSONScalarWrongFalsely : Prop := fnKindOfJSONScalarRow.holds Trym.pinned (OpenSpec.ofChange fnKindOfJSONScalarWrong)

/-- 'zzlaws_rangequery_b1.FnAllDigitsExact': WHATEVER THE INPUT: true; the input reads as it did. -/
def fnAllDigitsExactSpec : ChangeSpec := { name := "fnAllDigitsExact", fn := fun _ => fun
  | [d] => { results := [.lit (.bool true)], args := [d] }
  | _ => none }
def fnAllDigitsExactRow : OpenClaim := { program := "qxb6600928amods", sum := "7dd2a0b8617023284821c7b7e8aef10fdbd43bac9a57108bee25bdb6fbb21921", func := "example.com/tideline/tideline/zzlaws_rangequery_b1.FnAllDigitsExact", spec := "fnAllDigitsExact", make := .lifted ["publicsums"], apart := false }
def FnAllDigitsExactSaid : Prop := fnAllDigitsExactRow.holds Trym.pinned (OpenSpec.ofChange fnAllDigitsExactSpec)

/-- ITS FALSE NEIGHBOUR: 'it returns false'. Refute it at one input. -/
def fnAllDigitsExactWrong : ChangeSpec := { name := "fnAllDigitsExact", fn := fun _ => fun
  | [d] => { results := [.lit (.bool false)], args := [d] }
  | _ => none }
def FnAllDigitsExactWrongFalsely : Prop := fnAllDigitsExactRow.holds Trym.pinned (OpenSpec.ofChange fnAllDigitsExactWrong)

/-- 'zzlaws_rangequery_b1.FnAllDigitsConcat': WHATEVER THE INPUT: true; the input reads as it did. -/
def fnAllDigitsConcatSpec : ChangeSpec := { name := "fnAllDigitsConcat", fn := fun _ => fun
  | [d1, d2] => { results := [.lit (.bool true)], args := [d1, d2] }
  | _ => none }
def fnAllDigitsConcatRow : OpenClaim := { program := "qxb6600928amods", sum := "7dd2a0b8617023284821c7b7e8aef10fdbd43bac9a57108bee25bdb6fbb21921", func := "example.com/tideline/tideline/zzlaws_rangequery_b1.FnAllDigitsConcat", spec := "fnAllDigitsConcat", make := .lifted ["publicsums"], apart := false }
def FnAllDigitsConcatSaid : Prop := fnAllDigitsConcatRow.holds Trym.pinned (OpenSpec.ofChange fnAllDigitsConcatSpec)

/-- ITS FALSE NEIGHBOUR: 'it returns false'. Refute it at one input. -/
def fnAllDigitsConcatWrong : ChangeSpec := { name := "fnAllDigitsConcat", fn := fun _ => fun
  | [d1, d2] => { results := [.lit (.bool false)], args := [d1, d2] }
  | _ => none }
def FnAllDigitsConcatWrongFalsely : Prop := fnAllDigitsConcatRow.holds Trym.pinned (OpenSpec.ofChange fnAllDigitsConcatWrong)

/-- 'zzlaws_rangequery_b1.FnAllDigitsRefusesInsertedNonDigit': WHATEVER THE INPUT: true; the input reads as it did. -/
def fnAllDigitsRefusesInsertedNonDigitSpec : ChangeSpec := { name := "fnAllDigitsRefusesInsertedNonDigit", fn := fun _ => fun
  | [d1, d2, d3] => { results := [.lit (.bool true)], args := [d1, d2, d3] }
  | _ => none }
def fnAllDigitsRefusesInsertedNonDigitRow : OpenClaim := { program := "qxb6600928amods", sum := "7dd2a0b8617023284821c7b7e8aef10fdbd43bac9a57108bee25bdb6fbb21921", func := "example.com/tideline/tideline/zzlaws_rangequery_b1.FnAllDigitsRefusesInsertedNonDigit", spec := "fnAllDigitsRefusesInsertedNonDigit", make := .lifted ["publicsums"], apart := false }
def FnAllDigitsRefusesInsertedNonDigitSaid : Prop := fnAllDigitsRefusesInsertedNonDigitRow.holds Trym.pinned (OpenSpec.ofChange fnAllDigitsRefusesInsertedNonDigitSpec)

/-- ITS FALSE NEIGHBOUR: 'it returns false'. Refute it at one input. -/
def fnAllDigitsRefusesInsertedNonDigitWrong : ChangeSpec := { name := "fnAllDigitsRefusesInsertedNonDigit", fn := fun _ => fun
  | [d1, d2, d3] => { results := [.lit (.bool false)], args := [d1, d2, d3] }
  | _ => none }
def FnAllDigitsRefusesInsertedNonDigitWrongFalsely : Prop := fnAllDigitsRefusesInsertedNonDigitRow.holds Trym.pinned (OpenSpec.ofChange fnAllDigitsRefusesInsertedNonDigitWrong)

end Rows
end Go.Proofs.Qxb6600928aMods

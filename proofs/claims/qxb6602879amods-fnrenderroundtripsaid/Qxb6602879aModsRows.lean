/-
  No cell of these rows narrows 'for every input' (looked for: loops, veiled, ifaces, maps, wideKeys, modest, calm, conditions, laid).
  DERIVED. THE GIVEN ROWS OF THIS SEAT. 6 by the template 'for every input the law returns true; each argument reads behind the call as it read before'; 0 by the template 'total and deterministic' (their statements: Qxb6602879aModsTotals.lean).
  GIVEN WITH THE SEED: the statements are not yours to turn. If you find one false, say at which input.
  Laid BY PROGRAM, IN A SANDBOX (cutbox-rows.mjs): the forced cells as the released guide's own fill.sh prints them over the translation 3587d76fa5eea6d5… (all of the seat's roots in one cut). By AI agents, Wed Nov 11 2026. No macro, syntax, notation, axiom, sorry.
-/
import Derived.Test.Qxb6602879aModsChecked
import GoSem.Claim
import GoSem.ClaimJoined
import GoSem.ClaimMapViews
import Derived.JoinedTies
import Derived.KernelRfl
namespace Go.Proofs.Qxb6602879aMods
/- THE CELL 'sum', in the pinned program and in every row, IS THE sha256 OF THE DUMP (.gsa) THAT Qxb6602879aModsProg.lean LOADS. Nothing in Lean hashes anything: it is a label: what it is worth is what the hold of that sum in a sandbox is worth. -/
noncomputable def Trym.pinned : Pinned := { name := "qxb6602879amods", sum := "3587d76fa5eea6d5f5e2cd8ed8dafdd6d0107bea636b24d8e0b3e74521c82a1b", checked := Trym.checked }
namespace Rows
def none {H : Type} : Left H := { results := [], args := [] }

/-- 'zzlaws_pkg_decimal_b1.FnCountDigitsMatchesGrammar': WHATEVER THE INPUT: true; the input reads as it did. -/
def fnCountDigitsMatchesGrammarSpec : ChangeSpec := { name := "fnCountDigitsMatchesGrammar", fn := fun _ => fun
  | [d] => { results := [.lit (.bool true)], args := [d] }
  | _ => none }
def fnCountDigitsMatchesGrammarRow : OpenClaim := { program := "qxb6602879amods", sum := "3587d76fa5eea6d5f5e2cd8ed8dafdd6d0107bea636b24d8e0b3e74521c82a1b", func := "example.com/zhaomu/zhaomu/zzlaws_pkg_decimal_b1.FnCountDigitsMatchesGrammar", spec := "fnCountDigitsMatchesGrammar", make := .lifted ["publicsums"], apart := false }
def FnCountDigitsMatchesGrammarSaid : Prop := fnCountDigitsMatchesGrammarRow.holds Trym.pinned (OpenSpec.ofChange fnCountDigitsMatchesGrammarSpec)

/-- ITS FALSE NEIGHBOUR: 'it returns false'. Refute it at one input. -/
def fnCountDigitsMatchesGrammarWrong : ChangeSpec := { name := "fnCountDigitsMatchesGrammar", fn := fun _ => fun
  | [d] => { results := [.lit (.bool false)], args := [d] }
  | _ => none }
def FnCountDigitsMatchesGrammarWrongFalsely : Prop := fnCountDigitsMatchesGrammarRow.holds Trym.pinned (OpenSpec.ofChange fnCountDigitsMatchesGrammarWrong)

/-- 'zzlaws_pkg_decimal_b1.FnCoefficientIsPositionalValue': WHATEVER THE INPUT: true; the input reads as it did. -/
def fnCoefficientIsPositionalValueSpec : ChangeSpec := { name := "fnCoefficientIsPositionalValue", fn := fun _ => fun
  | [d] => { results := [.lit (.bool true)], args := [d] }
  | _ => none }
def fnCoefficientIsPositionalValueRow : OpenClaim := { program := "qxb6602879amods", sum := "3587d76fa5eea6d5f5e2cd8ed8dafdd6d0107bea636b24d8e0b3e74521c82a1b", func := "example.com/zhaomu/zhaomu/zzlaws_pkg_decimal_b1.FnCoefficientIsPositionalValue", spec := "fnCoefficientIsPositionalValue", make := .lifted ["publicsums"], apart := false }
def FnCoefficientIsPositionalValueSaid : Prop := fnCoefficientIsPositionalValueRow.holds Trym.pinned (OpenSpec.ofChange fnCoefficientIsPositionalValueSpec)

/-- ITS FALSE NEIGHBOUR: 'it returns false'. Refute it at one input. -/
def fnCoefficientIsPositionalValueWrong : ChangeSpec := { name := "fnCoefficientIsPositionalValue", fn := fun _ => fun
  | [d] => { results := [.lit (.bool false)], args := [d] }
  | _ => none }
def FnCoefficientIsPositionalValueWrongFalsely : Prop := fnCoefficientIsPositionalValueRow.holds Trym.pinned (OpenSpec.ofChange fnCoefficientIsPositionalValueWrong)

/-- 'zzlaws_pkg_decimal_b1.FnCoefficientIgnoresPoint': WHATEVER THE INPUT: true; the input reads as it did. -/
def fnCoefficientIgnoresPointSpec : ChangeSpec := { name := "fnCoefficientIgnoresPoint", fn := fun _ => fun
  | [d1, d2] => { results := [.lit (.bool true)], args := [d1, d2] }
  | _ => none }
def fnCoefficientIgnoresPointRow : OpenClaim := { program := "qxb6602879amods", sum := "3587d76fa5eea6d5f5e2cd8ed8dafdd6d0107bea636b24d8e0b3e74521c82a1b", func := "example.com/zhaomu/zhaomu/zzlaws_pkg_decimal_b1.FnCoefficientIgnoresPoint", spec := "fnCoefficientIgnoresPoint", make := .lifted ["publicsums"], apart := false }
def FnCoefficientIgnoresPointSaid : Prop := fnCoefficientIgnoresPointRow.holds Trym.pinned (OpenSpec.ofChange fnCoefficientIgnoresPointSpec)

/-- ITS FALSE NEIGHBOUR: 'it returns false'. Refute it at one input. -/
def fnCoefficientIgnoresPointWrong : ChangeSpec := { name := "fnCoefficientIgnoresPoint", fn := fun _ => fun
  | [d1, d2] => { results := [.lit (.bool false)], args := [d1, d2] }
  | _ => none }
def FnCoefficientIgnoresPointWrongFalsely : Prop := fnCoefficientIgnoresPointRow.holds Trym.pinned (OpenSpec.ofChange fnCoefficientIgnoresPointWrong)

/-- 'zzlaws_pkg_decimal_b1.FnFractionDigitsCountsAfterFirstPoint': WHATEVER THE INPUT: true; the input reads as it did. -/
def fnFractionDigitsCountsAfterFirstPointSpec : ChangeSpec := { name := "fnFractionDigitsCountsAfterFirstPoint", fn := fun _ => fun
  | [d] => { results := [.lit (.bool true)], args := [d] }
  | _ => none }
def fnFractionDigitsCountsAfterFirstPointRow : OpenClaim := { program := "qxb6602879amods", sum := "3587d76fa5eea6d5f5e2cd8ed8dafdd6d0107bea636b24d8e0b3e74521c82a1b", func := "example.com/zhaomu/zhaomu/zzlaws_pkg_decimal_b1.FnFractionDigitsCountsAfterFirstPoint", spec := "fnFractionDigitsCountsAfterFirstPoint", make := .lifted ["publicsums"], apart := false }
def FnFractionDigitsCountsAfterFirstPointSaid : Prop := fnFractionDigitsCountsAfterFirstPointRow.holds Trym.pinned (OpenSpec.ofChange fnFractionDigitsCountsAfterFirstPointSpec)

/-- ITS FALSE NEIGHBOUR: 'it returns false'. Refute it at one input. -/
def fnFractionDigitsCountsAfterFirstPointWrong : ChangeSpec := { name := "fnFractionDigitsCountsAfterFirstPoint", fn := fun _ => fun
  | [d] => { results := [.lit (.bool false)], args := [d] }
  | _ => none }
def FnFractionDigitsCountsAfterFirstPointWrongFalsely : Prop := fnFractionDigitsCountsAfterFirstPointRow.holds Trym.pinned (OpenSpec.ofChange fnFractionDigitsCountsAfterFirstPointWrong)

/-- 'zzlaws_pkg_decimal_b1.FnFractionWithinDigitCount': WHATEVER THE INPUT: true; the input reads as it did. -/
def fnFractionWithinDigitCountSpec : ChangeSpec := { name := "fnFractionWithinDigitCount", fn := fun _ => fun
  | [d] => { results := [.lit (.bool true)], args := [d] }
  | _ => none }
def fnFractionWithinDigitCountRow : OpenClaim := { program := "qxb6602879amods", sum := "3587d76fa5eea6d5f5e2cd8ed8dafdd6d0107bea636b24d8e0b3e74521c82a1b", func := "example.com/zhaomu/zhaomu/zzlaws_pkg_decimal_b1.FnFractionWithinDigitCount", spec := "fnFractionWithinDigitCount", make := .lifted ["publicsums"], apart := false }
def FnFractionWithinDigitCountSaid : Prop := fnFractionWithinDigitCountRow.holds Trym.pinned (OpenSpec.ofChange fnFractionWithinDigitCountSpec)

/-- ITS FALSE NEIGHBOUR: 'it returns false'. Refute it at one input. -/
def fnFractionWithinDigitCountWrong : ChangeSpec := { name := "fnFractionWithinDigitCount", fn := fun _ => fun
  | [d] => { results := [.lit (.bool false)], args := [d] }
  | _ => none }
def FnFractionWithinDigitCountWrongFalsely : Prop := fnFractionWithinDigitCountRow.holds Trym.pinned (OpenSpec.ofChange fnFractionWithinDigitCountWrong)

/-- 'zzlaws_pkg_decimal_b1.FnRenderRoundTrip': WHATEVER THE INPUT: true; the input reads as it did. -/
def fnRenderRoundTripSpec : ChangeSpec := { name := "fnRenderRoundTrip", fn := fun _ => fun
  | [d1, d2] => { results := [.lit (.bool true)], args := [d1, d2] }
  | _ => none }
def fnRenderRoundTripRow : OpenClaim := { program := "qxb6602879amods", sum := "3587d76fa5eea6d5f5e2cd8ed8dafdd6d0107bea636b24d8e0b3e74521c82a1b", func := "example.com/zhaomu/zhaomu/zzlaws_pkg_decimal_b1.FnRenderRoundTrip", spec := "fnRenderRoundTrip", make := .lifted ["publicsums"], apart := false }
def FnRenderRoundTripSaid : Prop := fnRenderRoundTripRow.holds Trym.pinned (OpenSpec.ofChange fnRenderRoundTripSpec)

/-- ITS FALSE NEIGHBOUR: 'it returns false'. Refute it at one input. -/
def fnRenderRoundTripWrong : ChangeSpec := { name := "fnRenderRoundTrip", fn := fun _ => fun
  | [d1, d2] => { results := [.lit (.bool false)], args := [d1, d2] }
  | _ => none }
def FnRenderRoundTripWrongFalsely : Prop := fnRenderRoundTripRow.holds Trym.pinned (OpenSpec.ofChange fnRenderRoundTripWrong)

end Rows
end Go.Proofs.Qxb6602879aMods

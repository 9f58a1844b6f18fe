/-
  No cell of these rows narrows 'for every input' (looked for: loops, veiled, ifaces, maps, wideKeys, modest, calm, conditions, laid).
  DERIVED. THE GIVEN ROWS OF THIS SEAT. 5 by the template 'for every input the law returns true; each argument reads behind the call as it read before'; 0 by the template 'total and deterministic' (their statements: Qxb6000034aTotals.lean).
  GIVEN WITH THE SEED: the statements are not yours to turn. If you find one false, say at which input.
  Laid BY PROGRAM, IN A SANDBOX (cutbox-rows.mjs): the forced cells as the released guide's own fill.sh prints them over the translation 314ecfaf46215975… (all of the seat's roots in one cut). By AI agents, Wed Nov 11 2026. No macro, syntax, notation, axiom, sorry.
-/
import Derived.Test.Qxb6000034aChecked
import GoSem.Claim
import GoSem.ClaimJoined
import GoSem.ClaimMapViews
import Derived.JoinedTies
import Derived.KernelRfl
namespace Go.Proofs.Qxb6000034a
/- THE CELL 'sum', in the pinned program and in every row, IS THE sha256 OF THE DUMP (.gsa) THAT Qxb6000034aProg.lean LOADS. Nothing in Lean hashes anything: it is a label: what it is worth is what the hold of that sum in a sandbox is worth. -/
noncomputable def Try.pinned : Pinned := { name := "qxb6000034a", sum := "314ecfaf4621597510f51841dd55d1a4450dd8e3dbd1dad0023fe2443c798566", checked := Try.checked }
namespace Rows
def none {H : Type} : Left H := { results := [], args := [] }

/-- 'zzlaws_root_b1.FnCanonicalStringIsStrictJSONOfInput': WHATEVER THE INPUT: true; the input reads as it did. -/
def fnCanonicalStringIsStrictJSONOfInputSpec : ChangeSpec := { name := "fnCanonicalStringIsStrictJSONOfInput", fn := fun _ => fun
  | [d1, d2] => { results := [.lit (.bool true)], args := [d1, d2] }
  | _ => none }
def fnCanonicalStringIsStrictJSONOfInputRow : OpenClaim := { program := "qxb6000034a", sum := "314ecfaf4621597510f51841dd55d1a4450dd8e3dbd1dad0023fe2443c798566", func := "example.com/resolvent/resolvent/zzlaws_root_b1.FnCanonicalStringIsStrictJSONOfInput", spec := "fnCanonicalStringIsStrictJSONOfInput", apart := false }
def FnCanonicalStringIsStrictJSONOfInputSaid : Prop := fnCanonicalStringIsStrictJSONOfInputRow.holds Try.pinned (OpenSpec.ofChange fnCanonicalStringIsStrictJSONOfInputSpec)

/-- ITS FALSE NEIGHBOUR: 'it returns false'. Refute it at one input. -/
def fnCanonicalStringIsStrictJSONOfInputWrong : ChangeSpec := { name := "fnCanonicalStringIsStrictJSONOfInput", fn := fun _ => fun
  | [d1, d2] => { results := [.lit (.bool false)], args := [d1, d2] }
  | _ => none }
def FnCanonicalStringIsStrictJSONOfInputWrongFalsely : Prop := fnCanonicalStringIsStrictJSONOfInputRow.holds Try.pinned (OpenSpec.ofChange fnCanonicalStringIsStrictJSONOfInputWrong)

/-- 'zzlaws_root_b1.FnCanonicalStringConcatenates': WHATEVER THE INPUT: true; the input reads as it did. -/
def fnCanonicalStringConcatenatesSpec : ChangeSpec := { name := "fnCanonicalStringConcatenates", fn := fun _ => fun
  | [d1, d2, d3] => { results := [.lit (.bool true)], args := [d1, d2, d3] }
  | _ => none }
def fnCanonicalStringConcatenatesRow : OpenClaim := { program := "qxb6000034a", sum := "314ecfaf4621597510f51841dd55d1a4450dd8e3dbd1dad0023fe2443c798566", func := "example.com/resolvent/resolvent/zzlaws_root_b1.FnCanonicalStringConcatenates", spec := "fnCanonicalStringConcatenates", apart := false }
def FnCanonicalStringConcatenatesSaid : Prop := fnCanonicalStringConcatenatesRow.holds Try.pinned (OpenSpec.ofChange fnCanonicalStringConcatenatesSpec)

/-- ITS FALSE NEIGHBOUR: 'it returns false'. Refute it at one input. -/
def fnCanonicalStringConcatenatesWrong : ChangeSpec := { name := "fnCanonicalStringConcatenates", fn := fun _ => fun
  | [d1, d2, d3] => { results := [.lit (.bool false)], args := [d1, d2, d3] }
  | _ => none }
def FnCanonicalStringConcatenatesWrongFalsely : Prop := fnCanonicalStringConcatenatesRow.holds Try.pinned (OpenSpec.ofChange fnCanonicalStringConcatenatesWrong)

/-- 'zzlaws_root_b1.FnHex4AgreesWithDigitTable': WHATEVER THE INPUT: true; the input reads as it did. -/
def fnHex4AgreesWithDigitTableSpec : ChangeSpec := { name := "fnHex4AgreesWithDigitTable", fn := fun _ => fun
  | [d] => { results := [.lit (.bool true)], args := [d] }
  | _ => none }
def fnHex4AgreesWithDigitTableRow : OpenClaim := { program := "qxb6000034a", sum := "314ecfaf4621597510f51841dd55d1a4450dd8e3dbd1dad0023fe2443c798566", func := "example.com/resolvent/resolvent/zzlaws_root_b1.FnHex4AgreesWithDigitTable", spec := "fnHex4AgreesWithDigitTable", apart := false }
def FnHex4AgreesWithDigitTableSaid : Prop := fnHex4AgreesWithDigitTableRow.holds Try.pinned (OpenSpec.ofChange fnHex4AgreesWithDigitTableSpec)

/-- ITS FALSE NEIGHBOUR: 'it returns false'. Refute it at one input. -/
def fnHex4AgreesWithDigitTableWrong : ChangeSpec := { name := "fnHex4AgreesWithDigitTable", fn := fun _ => fun
  | [d] => { results := [.lit (.bool false)], args := [d] }
  | _ => none }
def FnHex4AgreesWithDigitTableWrongFalsely : Prop := fnHex4AgreesWithDigitTableRow.holds Try.pinned (OpenSpec.ofChange fnHex4AgreesWithDigitTableWrong)

/-- 'zzlaws_root_b1.FnHex4ReadsBackFourDigits': WHATEVER THE INPUT: true; the input reads as it did. -/
def fnHex4ReadsBackFourDigitsSpec : ChangeSpec := { name := "fnHex4ReadsBackFourDigits", fn := fun _ => fun
  | [d1, d2, d3] => { results := [.lit (.bool true)], args := [d1, d2, d3] }
  | _ => none }
def fnHex4ReadsBackFourDigitsRow : OpenClaim := { program := "qxb6000034a", sum := "314ecfaf4621597510f51841dd55d1a4450dd8e3dbd1dad0023fe2443c798566", func := "example.com/resolvent/resolvent/zzlaws_root_b1.FnHex4ReadsBackFourDigits", spec := "fnHex4ReadsBackFourDigits", apart := false }
def FnHex4ReadsBackFourDigitsSaid : Prop := fnHex4ReadsBackFourDigitsRow.holds Try.pinned (OpenSpec.ofChange fnHex4ReadsBackFourDigitsSpec)

/-- ITS FALSE NEIGHBOUR: 'it returns false'. Refute it at one input. -/
def fnHex4ReadsBackFourDigitsWrong : ChangeSpec := { name := "fnHex4ReadsBackFourDigits", fn := fun _ => fun
  | [d1, d2, d3] => { results := [.lit (.bool false)], args := [d1, d2, d3] }
  | _ => none }
def FnHex4ReadsBackFourDigitsWrongFalsely : Prop := fnHex4ReadsBackFourDigitsRow.holds Try.pinned (OpenSpec.ofChange fnHex4ReadsBackFourDigitsWrong)

/-- 'zzlaws_root_b1.FnKnowsJoinRuleMonotoneInFlags': WHATEVER THE INPUT: true; the input reads as it did. -/
def fnKnowsJoinRuleMonotoneInFlagsSpec : ChangeSpec := { name := "fnKnowsJoinRuleMonotoneInFlags", fn := fun _ => fun
  | [d1, d2, d3, d4, d5, d6, d7] => { results := [.lit (.bool true)], args := [d1, d2, d3, d4, d5, d6, d7] }
  | _ => none }
def fnKnowsJoinRuleMonotoneInFlagsRow : OpenClaim := { program := "qxb6000034a", sum := "314ecfaf4621597510f51841dd55d1a4450dd8e3dbd1dad0023fe2443c798566", func := "example.com/resolvent/resolvent/zzlaws_root_b1.FnKnowsJoinRuleMonotoneInFlags", spec := "fnKnowsJoinRuleMonotoneInFlags", apart := false }
def FnKnowsJoinRuleMonotoneInFlagsSaid : Prop := fnKnowsJoinRuleMonotoneInFlagsRow.holds Try.pinned (OpenSpec.ofChange fnKnowsJoinRuleMonotoneInFlagsSpec)

/-- ITS FALSE NEIGHBOUR: 'it returns false'. Refute it at one input. -/
def fnKnowsJoinRuleMonotoneInFlagsWrong : ChangeSpec := { name := "fnKnowsJoinRuleMonotoneInFlags", fn := fun _ => fun
  | [d1, d2, d3, d4, d5, d6, d7] => { results := [.lit (.bool false)], args := [d1, d2, d3, d4, d5, d6, d7] }
  | _ => none }
def FnKnowsJoinRuleMonotoneInFlagsWrongFalsely : Prop := fnKnowsJoinRuleMonotoneInFlagsRow.holds Try.pinned (OpenSpec.ofChange fnKnowsJoinRuleMonotoneInFlagsWrong)

end Rows
end Go.Proofs.Qxb6000034a

/-
  No cell of these rows narrows 'for every input' (looked for: loops, veiled, ifaces, maps, wideKeys, modest, calm, conditions, laid).
  DERIVED. THE GIVEN ROWS OF THIS SEAT. 4 by the template 'for every input the law returns true; each argument reads behind the call as it read before'; 0 by the template 'total and deterministic' (their statements: Qxb6600771aModsTotals.lean).
  GIVEN WITH THE SEED: the statements are not yours to turn. If you find one false, say at which input.
  Laid BY PROGRAM, IN A SANDBOX (cutbox-rows.mjs): the forced cells as the released guide's own fill.sh prints them over the translation af78aa698f3c5abd… (all of the seat's roots in one cut). By AI agents, Wed Nov 11 2026. No macro, syntax, notation, axiom, sorry.
-/
import Derived.Test.Qxb6600771aModsChecked
import GoSem.Claim
import GoSem.ClaimJoined
import GoSem.ClaimMapViews
import Derived.JoinedTies
import Derived.KernelRfl
namespace Go.Proofs.Qxb6600771aMods
/- THE CELL 'sum', in the pinned program and in every row, IS THE sha256 OF THE DUMP (.gsa) THAT Qxb6600771aModsProg.lean LOADS. Nothing in Lean hashes anything: it is a label: what it is worth is what the hold of that sum in a sandbox is worth. -/
noncomputable def Trym.pinned : Pinned := { name := "qxb6600771amods", sum := "af78aa698f3c5abd3300be901a6e3248339c096551d7d522cf4a76aeef729803", checked := Trym.checked }
namespace Rows
def none {H : Type} : Left H := { results := [], args := [] }

/-- 'zzlaws_root_b1.FnEscapedCharIdempotentAndOnlyLettersChange': WHATEVER THE INPUT: true; the input reads as it did. -/
def fnEscapedCharIdempotentAndOnlyLettersChangeSpec : ChangeSpec := { name := "fnEscapedCharIdempotentAndOnlyLettersChange", fn := fun _ => fun
  | [d] => { results := [.lit (.bool true)], args := [d] }
  | _ => none }
def fnEscapedCharIdempotentAndOnlyLettersChangeRow : OpenClaim := { program := "qxb6600771amods", sum := "af78aa698f3c5abd3300be901a6e3248339c096551d7d522cf4a76aeef729803", func := "example.com/margintier/margintier/zzlaws_root_b1.FnEscapedCharIdempotentAndOnlyLettersChange", spec := "fnEscapedCharIdempotentAndOnlyLettersChange", make := .lifted ["publicsums"], apart := false }
def FnEscapedCharIdempotentAndOnlyLettersChangeSaid : Prop := fnEscapedCharIdempotentAndOnlyLettersChangeRow.holds Trym.pinned (OpenSpec.ofChange fnEscapedCharIdempotentAndOnlyLettersChangeSpec)

/-- ITS FALSE NEIGHBOUR: 'it returns false'. Refute it at one input. -/
def fnEscapedCharIdempotentAndOnlyLettersChangeWrong : ChangeSpec := { name := "fnEscapedCharIdempotentAndOnlyLettersChange", fn := fun _ => fun
  | [d] => { results := [.lit (.bool false)], args := [d] }
  | _ => none }
def FnEscapedCharIdempotentAndOnlyLettersChangeWrongFalsely : Prop := fnEscapedCharIdempotentAndOnlyLettersChangeRow.holds Trym.pinned (OpenSpec.ofChange fnEscapedCharIdempotentAndOnlyLettersChangeWrong)

/-- 'zzlaws_root_b1.FnHexValueMatchesDigitTable': WHATEVER THE INPUT: true; the input reads as it did. -/
def fnHexValueMatchesDigitTableSpec : ChangeSpec := { name := "fnHexValueMatchesDigitTable", fn := fun _ => fun
  | [d] => { results := [.lit (.bool true)], args := [d] }
  | _ => none }
def fnHexValueMatchesDigitTableRow : OpenClaim := { program := "qxb6600771amods", sum := "af78aa698f3c5abd3300be901a6e3248339c096551d7d522cf4a76aeef729803", func := "example.com/margintier/margintier/zzlaws_root_b1.FnHexValueMatchesDigitTable", spec := "fnHexValueMatchesDigitTable", make := .lifted ["publicsums"], apart := false }
def FnHexValueMatchesDigitTableSaid : Prop := fnHexValueMatchesDigitTableRow.holds Trym.pinned (OpenSpec.ofChange fnHexValueMatchesDigitTableSpec)

/-- ITS FALSE NEIGHBOUR: 'it returns false'. Refute it at one input. -/
def fnHexValueMatchesDigitTableWrong : ChangeSpec := { name := "fnHexValueMatchesDigitTable", fn := fun _ => fun
  | [d] => { results := [.lit (.bool false)], args := [d] }
  | _ => none }
def FnHexValueMatchesDigitTableWrongFalsely : Prop := fnHexValueMatchesDigitTableRow.holds Trym.pinned (OpenSpec.ofChange fnHexValueMatchesDigitTableWrong)

/-- 'zzlaws_root_b1.FnHexValueInvertsDigitWriting': WHATEVER THE INPUT: true; the input reads as it did. -/
def fnHexValueInvertsDigitWritingSpec : ChangeSpec := { name := "fnHexValueInvertsDigitWriting", fn := fun _ => fun
  | [d] => { results := [.lit (.bool true)], args := [d] }
  | _ => none }
def fnHexValueInvertsDigitWritingRow : OpenClaim := { program := "qxb6600771amods", sum := "af78aa698f3c5abd3300be901a6e3248339c096551d7d522cf4a76aeef729803", func := "example.com/margintier/margintier/zzlaws_root_b1.FnHexValueInvertsDigitWriting", spec := "fnHexValueInvertsDigitWriting", make := .lifted ["publicsums"], apart := false }
def FnHexValueInvertsDigitWritingSaid : Prop := fnHexValueInvertsDigitWritingRow.holds Trym.pinned (OpenSpec.ofChange fnHexValueInvertsDigitWritingSpec)

/-- ITS FALSE NEIGHBOUR: 'it returns false'. Refute it at one input. -/
def fnHexValueInvertsDigitWritingWrong : ChangeSpec := { name := "fnHexValueInvertsDigitWriting", fn := fun _ => fun
  | [d] => { results := [.lit (.bool false)], args := [d] }
  | _ => none }
def FnHexValueInvertsDigitWritingWrongFalsely : Prop := fnHexValueInvertsDigitWritingRow.holds Trym.pinned (OpenSpec.ofChange fnHexValueInvertsDigitWritingWrong)

/-- 'zzlaws_root_b1.FnHexValueCaseBlindAndBounded': WHATEVER THE INPUT: true; the input reads as it did. -/
def fnHexValueCaseBlindAndBoundedSpec : ChangeSpec := { name := "fnHexValueCaseBlindAndBounded", fn := fun _ => fun
  | [d] => { results := [.lit (.bool true)], args := [d] }
  | _ => none }
def fnHexValueCaseBlindAndBoundedRow : OpenClaim := { program := "qxb6600771amods", sum := "af78aa698f3c5abd3300be901a6e3248339c096551d7d522cf4a76aeef729803", func := "example.com/margintier/margintier/zzlaws_root_b1.FnHexValueCaseBlindAndBounded", spec := "fnHexValueCaseBlindAndBounded", make := .lifted ["publicsums"], apart := false }
def FnHexValueCaseBlindAndBoundedSaid : Prop := fnHexValueCaseBlindAndBoundedRow.holds Trym.pinned (OpenSpec.ofChange fnHexValueCaseBlindAndBoundedSpec)

/-- ITS FALSE NEIGHBOUR: 'it returns false'. Refute it at one input. -/
def fnHexValueCaseBlindAndBoundedWrong : ChangeSpec := { name := "fnHexValueCaseBlindAndBounded", fn := fun _ => fun
  | [d] => { results := [.lit (.bool false)], args := [d] }
  | _ => none }
def FnHexValueCaseBlindAndBoundedWrongFalsely : Prop := fnHexValueCaseBlindAndBoundedRow.holds Trym.pinned (OpenSpec.ofChange fnHexValueCaseBlindAndBoundedWrong)

end Rows
end Go.Proofs.Qxb6600771aMods

/-
  No cell of these rows narrows 'for every input' (looked for: loops, veiled, ifaces, maps, wideKeys, modest, calm, conditions, laid).
  DERIVED. THE GIVEN ROWS OF THIS SEAT. 2 by the template 'for every input the law returns true; each argument reads behind the call as it read before'; 0 by the template 'total and deterministic' (their statements: Qxb6600646aModsTotals.lean).
  GIVEN WITH THE SEED: the statements are not yours to turn. If you find one false, say at which input.
  Laid BY PROGRAM, IN A SANDBOX (cutbox-rows.mjs): the forced cells as the released guide's own fill.sh prints them over the translation 474bc44914cae049… (all of the seat's roots in one cut). By AI agents, Wed Nov 11 2026. No macro, syntax, notation, axiom, sorry.
-/
import Derived.Test.Qxb6600646aModsChecked
import GoSem.Claim
import GoSem.ClaimJoined
import GoSem.ClaimMapViews
import Derived.JoinedTies
import Derived.KernelRfl
namespace Go.Proofs.Qxb6600646aMods
/- THE CELL 'sum', in the pinned program and in every row, IS THE sha256 OF THE DUMP (.gsa) THAT Qxb6600646aModsProg.lean LOADS. Nothing in Lean hashes anything: it is a label: what it is worth is what the hold of that sum in a sandbox is worth. -/
noncomputable def Trym.pinned : Pinned := { name := "qxb6600646amods", sum := "474bc44914cae0495966813a3a2e081e521c13bd2d5db07d25cb7e46a3d90ce3", checked := Trym.checked }
namespace Rows
def none {H : Type} : Left H := { results := [], args := [] }

/-- 'zzlaws_root_b1.FnWireErrorFrameworkCodeWins': WHATEVER THE INPUT: true; the input reads as it did. -/
def fnWireErrorFrameworkCodeWinsSpec : ChangeSpec := { name := "fnWireErrorFrameworkCodeWins", fn := fun _ => fun
  | [d1, d2, d3, d4] => { results := [.lit (.bool true)], args := [d1, d2, d3, d4] }
  | _ => none }
def fnWireErrorFrameworkCodeWinsRow : OpenClaim := { program := "qxb6600646amods", sum := "474bc44914cae0495966813a3a2e081e521c13bd2d5db07d25cb7e46a3d90ce3", func := "example.com/framewire/framewire/zzlaws_root_b1.FnWireErrorFrameworkCodeWins", spec := "fnWireErrorFrameworkCodeWins", make := .lifted ["publicsums"], apart := false }
def FnWireErrorFrameworkCodeWinsSaid : Prop := fnWireErrorFrameworkCodeWinsRow.holds Trym.pinned (OpenSpec.ofChange fnWireErrorFrameworkCodeWinsSpec)

/-- ITS FALSE NEIGHBOUR: 'it returns false'. Refute it at one input. -/
def fnWireErrorFrameworkCodeWinsWrong : ChangeSpec := { name := "fnWireErrorFrameworkCodeWins", fn := fun _ => fun
  | [d1, d2, d3, d4] => { results := [.lit (.bool false)], args := [d1, d2, d3, d4] }
  | _ => none }
def FnWireErrorFrameworkCodeWinsWrongFalsely : Prop := fnWireErrorFrameworkCodeWinsRow.holds Trym.pinned (OpenSpec.ofChange fnWireErrorFrameworkCodeWinsWrong)

/-- 'zzlaws_root_b1.FnWireErrorMessageDetached': WHATEVER THE INPUT: true; the input reads as it did. -/
def fnWireErrorMessageDetachedSpec : ChangeSpec := { name := "fnWireErrorMessageDetached", fn := fun _ => fun
  | [d1, d2, d3] => { results := [.lit (.bool true)], args := [d1, d2, d3] }
  | _ => none }
def fnWireErrorMessageDetachedRow : OpenClaim := { program := "qxb6600646amods", sum := "474bc44914cae0495966813a3a2e081e521c13bd2d5db07d25cb7e46a3d90ce3", func := "example.com/framewire/framewire/zzlaws_root_b1.FnWireErrorMessageDetached", spec := "fnWireErrorMessageDetached", make := .lifted ["publicsums"], apart := false }
def FnWireErrorMessageDetachedSaid : Prop := fnWireErrorMessageDetachedRow.holds Trym.pinned (OpenSpec.ofChange fnWireErrorMessageDetachedSpec)

/-- ITS FALSE NEIGHBOUR: 'it returns false'. Refute it at one input. -/
def fnWireErrorMessageDetachedWrong : ChangeSpec := { name := "fnWireErrorMessageDetached", fn := fun _ => fun
  | [d1, d2, d3] => { results := [.lit (.bool false)], args := [d1, d2, d3] }
  | _ => none }
def FnWireErrorMessageDetachedWrongFalsely : Prop := fnWireErrorMessageDetachedRow.holds Trym.pinned (OpenSpec.ofChange fnWireErrorMessageDetachedWrong)

end Rows
end Go.Proofs.Qxb6600646aMods

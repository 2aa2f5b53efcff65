/-
  No cell of these rows narrows 'for every input' (looked for: loops, veiled, ifaces, maps, wideKeys, modest, calm, conditions, laid).
  DERIVED. THE GIVEN ROWS OF THIS SEAT. 3 by the template 'for every input the law returns true; each argument reads behind the call as it read before'; 0 by the template 'total and deterministic' (their statements: Qxb6600899aModsTotals.lean).
  GIVEN WITH THE SEED: the statements are not yours to turn. If you find one false, say at which input.
  Laid BY PROGRAM, IN A SANDBOX (cutbox-rows.mjs): the forced cells as the released guide's own fill.sh prints them over the translation d60243922a2d5649… (all of the seat's roots in one cut). By AI agents, Wed Nov 11 2026. No macro, syntax, notation, axiom, sorry.
-/
import Derived.Test.Qxb6600899aModsChecked
import GoSem.Claim
import GoSem.ClaimJoined
import GoSem.ClaimMapViews
import Derived.JoinedTies
import Derived.KernelRfl
namespace Go.Proofs.Qxb6600899aMods
/- THE CELL 'sum', in the pinned program and in every row, IS THE sha256 OF THE DUMP (.gsa) THAT Qxb6600899aModsProg.lean LOADS. Nothing in Lean hashes anything: it is a label: what it is worth is what the hold of that sum in a sandbox is worth. -/
noncomputable def Trym.pinned : Pinned := { name := "qxb6600899amods", sum := "d60243922a2d56491d66f50e2ecc6056651395a8480e81a5316995f152794399", checked := Trym.checked }
namespace Rows
def none {H : Type} : Left H := { results := [], args := [] }

/-- 'zzlaws_internal_dag_b1.FnWithinAnswerIsTheCutsOfTheRange': WHATEVER THE INPUT: true; the input reads as it did. -/
def fnWithinAnswerIsTheCutsOfTheRangeSpec : ChangeSpec := { name := "fnWithinAnswerIsTheCutsOfTheRange", fn := fun _ => fun
  | [d1, d2, d3] => { results := [.lit (.bool true)], args := [d1, d2, d3] }
  | _ => none }
def fnWithinAnswerIsTheCutsOfTheRangeRow : OpenClaim := { program := "qxb6600899amods", sum := "d60243922a2d56491d66f50e2ecc6056651395a8480e81a5316995f152794399", func := "example.com/lading/lading/zzlaws_internal_dag_b1.FnWithinAnswerIsTheCutsOfTheRange", spec := "fnWithinAnswerIsTheCutsOfTheRange", make := .lifted ["publicsums"], apart := false }
def FnWithinAnswerIsTheCutsOfTheRangeSaid : Prop := fnWithinAnswerIsTheCutsOfTheRangeRow.holds Trym.pinned (OpenSpec.ofChange fnWithinAnswerIsTheCutsOfTheRangeSpec)

/-- ITS FALSE NEIGHBOUR: 'it returns false'. Refute it at one input. -/
def fnWithinAnswerIsTheCutsOfTheRangeWrong : ChangeSpec := { name := "fnWithinAnswerIsTheCutsOfTheRange", fn := fun _ => fun
  | [d1, d2, d3] => { results := [.lit (.bool false)], args := [d1, d2, d3] }
  | _ => none }
def FnWithinAnswerIsTheCutsOfTheRangeWrongFalsely : Prop := fnWithinAnswerIsTheCutsOfTheRangeRow.holds Trym.pinned (OpenSpec.ofChange fnWithinAnswerIsTheCutsOfTheRangeWrong)

/-- 'zzlaws_internal_dag_b1.FnWithinSelectsJustTheNamedBytes': WHATEVER THE INPUT: true; the input reads as it did. -/
def fnWithinSelectsJustTheNamedBytesSpec : ChangeSpec := { name := "fnWithinSelectsJustTheNamedBytes", fn := fun _ => fun
  | [d1, d2, d3, d4] => { results := [.lit (.bool true)], args := [d1, d2, d3, d4] }
  | _ => none }
def fnWithinSelectsJustTheNamedBytesRow : OpenClaim := { program := "qxb6600899amods", sum := "d60243922a2d56491d66f50e2ecc6056651395a8480e81a5316995f152794399", func := "example.com/lading/lading/zzlaws_internal_dag_b1.FnWithinSelectsJustTheNamedBytes", spec := "fnWithinSelectsJustTheNamedBytes", make := .lifted ["publicsums"], apart := false }
def FnWithinSelectsJustTheNamedBytesSaid : Prop := fnWithinSelectsJustTheNamedBytesRow.holds Trym.pinned (OpenSpec.ofChange fnWithinSelectsJustTheNamedBytesSpec)

/-- ITS FALSE NEIGHBOUR: 'it returns false'. Refute it at one input. -/
def fnWithinSelectsJustTheNamedBytesWrong : ChangeSpec := { name := "fnWithinSelectsJustTheNamedBytes", fn := fun _ => fun
  | [d1, d2, d3, d4] => { results := [.lit (.bool false)], args := [d1, d2, d3, d4] }
  | _ => none }
def FnWithinSelectsJustTheNamedBytesWrongFalsely : Prop := fnWithinSelectsJustTheNamedBytesRow.holds Trym.pinned (OpenSpec.ofChange fnWithinSelectsJustTheNamedBytesWrong)

/-- 'zzlaws_internal_dag_b1.FnWithinCountingFromTheEndAgrees': WHATEVER THE INPUT: true; the input reads as it did. -/
def fnWithinCountingFromTheEndAgreesSpec : ChangeSpec := { name := "fnWithinCountingFromTheEndAgrees", fn := fun _ => fun
  | [d1, d2, d3] => { results := [.lit (.bool true)], args := [d1, d2, d3] }
  | _ => none }
def fnWithinCountingFromTheEndAgreesRow : OpenClaim := { program := "qxb6600899amods", sum := "d60243922a2d56491d66f50e2ecc6056651395a8480e81a5316995f152794399", func := "example.com/lading/lading/zzlaws_internal_dag_b1.FnWithinCountingFromTheEndAgrees", spec := "fnWithinCountingFromTheEndAgrees", make := .lifted ["publicsums"], apart := false }
def FnWithinCountingFromTheEndAgreesSaid : Prop := fnWithinCountingFromTheEndAgreesRow.holds Trym.pinned (OpenSpec.ofChange fnWithinCountingFromTheEndAgreesSpec)

/-- ITS FALSE NEIGHBOUR: 'it returns false'. Refute it at one input. -/
def fnWithinCountingFromTheEndAgreesWrong : ChangeSpec := { name := "fnWithinCountingFromTheEndAgrees", fn := fun _ => fun
  | [d1, d2, d3] => { results := [.lit (.bool false)], args := [d1, d2, d3] }
  | _ => none }
def FnWithinCountingFromTheEndAgreesWrongFalsely : Prop := fnWithinCountingFromTheEndAgreesRow.holds Trym.pinned (OpenSpec.ofChange fnWithinCountingFromTheEndAgreesWrong)

end Rows
end Go.Proofs.Qxb6600899aMods

/-
  No cell of these rows narrows 'for every input' (looked for: loops, veiled, ifaces, maps, wideKeys, modest, calm, conditions, laid).
  DERIVED. THE GIVEN ROWS OF THIS SEAT. 2 by the template 'for every input the law returns true; each argument reads behind the call as it read before'; 0 by the template 'total and deterministic' (their statements: Qxb6601652aModsTotals.lean).
  GIVEN WITH THE SEED: the statements are not yours to turn. If you find one false, say at which input.
  Laid BY PROGRAM, IN A SANDBOX (cutbox-rows.mjs): the forced cells as the released guide's own fill.sh prints them over the translation a5930f55bc96fe2f… (all of the seat's roots in one cut). By AI agents, Wed Nov 11 2026. No macro, syntax, notation, axiom, sorry.
-/
import Derived.Test.Qxb6601652aModsChecked
import GoSem.Claim
import GoSem.ClaimJoined
import GoSem.ClaimMapViews
import Derived.JoinedTies
import Derived.KernelRfl
namespace Go.Proofs.Qxb6601652aMods
/- THE CELL 'sum', in the pinned program and in every row, IS THE sha256 OF THE DUMP (.gsa) THAT Qxb6601652aModsProg.lean LOADS. Nothing in Lean hashes anything: it is a label: what it is worth is what the hold of that sum in a sandbox is worth. -/
noncomputable def Trym.pinned : Pinned := { name := "qxb6601652amods", sum := "a5930f55bc96fe2f7073948759221f9c4fcca3245f73d04f7d868df7635795a3", checked := Trym.checked }
namespace Rows
def none {H : Type} : Left H := { results := [], args := [] }

/-- 'zzlaws_election_b1.FnWithISRIdempotent': WHATEVER THE INPUT: true; the input reads as it did. -/
def fnWithISRIdempotentSpec : ChangeSpec := { name := "fnWithISRIdempotent", fn := fun _ => fun
  | [d1, d2, d3, d4, d5, d6, d7, d8, d9, d10, d11] => { results := [.lit (.bool true)], args := [d1, d2, d3, d4, d5, d6, d7, d8, d9, d10, d11] }
  | _ => none }
def fnWithISRIdempotentRow : OpenClaim := { program := "qxb6601652amods", sum := "a5930f55bc96fe2f7073948759221f9c4fcca3245f73d04f7d868df7635795a3", func := "example.com/holdfast/holdfast/zzlaws_election_b1.FnWithISRIdempotent", spec := "fnWithISRIdempotent", make := .lifted ["publicsums"], apart := false }
def FnWithISRIdempotentSaid : Prop := fnWithISRIdempotentRow.holds Trym.pinned (OpenSpec.ofChange fnWithISRIdempotentSpec)

/-- ITS FALSE NEIGHBOUR: 'it returns false'. Refute it at one input. -/
def fnWithISRIdempotentWrong : ChangeSpec := { name := "fnWithISRIdempotent", fn := fun _ => fun
  | [d1, d2, d3, d4, d5, d6, d7, d8, d9, d10, d11] => { results := [.lit (.bool false)], args := [d1, d2, d3, d4, d5, d6, d7, d8, d9, d10, d11] }
  | _ => none }
def FnWithISRIdempotentWrongFalsely : Prop := fnWithISRIdempotentRow.holds Trym.pinned (OpenSpec.ofChange fnWithISRIdempotentWrong)

/-- 'zzlaws_election_b1.FnRecoveredTwiceOnlyAdvancesEpoch': WHATEVER THE INPUT: true; the input reads as it did. -/
def fnRecoveredTwiceOnlyAdvancesEpochSpec : ChangeSpec := { name := "fnRecoveredTwiceOnlyAdvancesEpoch", fn := fun _ => fun
  | [d1, d2, d3, d4, d5, d6, d7, d8, d9, d10] => { results := [.lit (.bool true)], args := [d1, d2, d3, d4, d5, d6, d7, d8, d9, d10] }
  | _ => none }
def fnRecoveredTwiceOnlyAdvancesEpochRow : OpenClaim := { program := "qxb6601652amods", sum := "a5930f55bc96fe2f7073948759221f9c4fcca3245f73d04f7d868df7635795a3", func := "example.com/holdfast/holdfast/zzlaws_election_b1.FnRecoveredTwiceOnlyAdvancesEpoch", spec := "fnRecoveredTwiceOnlyAdvancesEpoch", make := .lifted ["publicsums"], apart := false }
def FnRecoveredTwiceOnlyAdvancesEpochSaid : Prop := fnRecoveredTwiceOnlyAdvancesEpochRow.holds Trym.pinned (OpenSpec.ofChange fnRecoveredTwiceOnlyAdvancesEpochSpec)

/-- ITS FALSE NEIGHBOUR: 'it returns false'. Refute it at one input. -/
def fnRecoveredTwiceOnlyAdvancesEpochWrong : ChangeSpec := { name := "fnRecoveredTwiceOnlyAdvancesEpoch", fn := fun _ => fun
  | [d1, d2, d3, d4, d5, d6, d7, d8, d9, d10] => { results := [.lit (.bool false)], args := [d1, d2, d3, d4, d5, d6, d7, d8, d9, d10] }
  | _ => none }
def FnRecoveredTwiceOnlyAdvancesEpochWrongFalsely : Prop := fnRecoveredTwiceOnlyAdvancesEpochRow.holds Trym.pinned (OpenSpec.ofChange fnRecoveredTwiceOnlyAdvancesEpochWrong)

end Rows
end Go.Proofs.Qxb6601652aMods

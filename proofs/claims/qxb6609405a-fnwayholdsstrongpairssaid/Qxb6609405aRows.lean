/-
  No cell of these rows narrows 'for every input' (looked for: loops, veiled, ifaces, maps, wideKeys, modest, calm, conditions, laid).
  DERIVED. THE GIVEN ROWS OF THIS SEAT. 1 by the template 'for every input the law returns true; each argument reads behind the call as it read before'; 0 by the template 'total and deterministic' (their statements: Qxb6609405aTotals.lean).
  GIVEN WITH THE SEED: the statements are not yours to turn. If you find one false, say at which input.
  Laid BY PROGRAM, IN A SANDBOX (cutbox-rows.mjs): the forced cells as the released guide's own fill.sh prints them over the translation f88fbf6798b394dd… (all of the seat's roots in one cut). By AI agents, Wed Nov 11 2026. No macro, syntax, notation, axiom, sorry.
-/
import Derived.Test.Qxb6609405aChecked
import GoSem.Claim
import GoSem.ClaimJoined
import GoSem.ClaimMapViews
import Derived.JoinedTies
import Derived.KernelRfl
namespace Go.Proofs.Qxb6609405a
/- THE CELL 'sum', in the pinned program and in every row, IS THE sha256 OF THE DUMP (.gsa) THAT Qxb6609405aProg.lean LOADS. Nothing in Lean hashes anything: it is a label: what it is worth is what the hold of that sum in a sandbox is worth. -/
noncomputable def Try.pinned : Pinned := { name := "qxb6609405a", sum := "f88fbf6798b394dd6bec050000197e2e4ffd5692a6475b1c0ec90f52ca87f371", checked := Try.checked }
namespace Rows
def none {H : Type} : Left H := { results := [], args := [] }

/-- 'zzlaws_internal_analysis_b1.FnWayHoldsStrongPairs': WHATEVER THE INPUT: true; the input reads as it did. -/
def fnWayHoldsStrongPairsSpec : ChangeSpec := { name := "fnWayHoldsStrongPairs", fn := fun _ => fun
  | [d1, d2, d3, d4, d5, d6, d7, d8, d9, d10] => { results := [.lit (.bool true)], args := [d1, d2, d3, d4, d5, d6, d7, d8, d9, d10] }
  | _ => none }
def fnWayHoldsStrongPairsRow : OpenClaim := { program := "qxb6609405a", sum := "f88fbf6798b394dd6bec050000197e2e4ffd5692a6475b1c0ec90f52ca87f371", func := "example.com/commitwise/commitwise/zzlaws_internal_analysis_b1.FnWayHoldsStrongPairs", spec := "fnWayHoldsStrongPairs", unfollowed := true, recurses := true, apart := false }
def FnWayHoldsStrongPairsSaid : Prop := fnWayHoldsStrongPairsRow.holds Try.pinned (OpenSpec.ofChange fnWayHoldsStrongPairsSpec)

/-- ITS FALSE NEIGHBOUR: 'it returns false'. Refute it at one input. -/
def fnWayHoldsStrongPairsWrong : ChangeSpec := { name := "fnWayHoldsStrongPairs", fn := fun _ => fun
  | [d1, d2, d3, d4, d5, d6, d7, d8, d9, d10] => { results := [.lit (.bool false)], args := [d1, d2, d3, d4, d5, d6, d7, d8, d9, d10] }
  | _ => none }
def FnWayHoldsStrongPairsWrongFalsely : Prop := fnWayHoldsStrongPairsRow.holds Try.pinned (OpenSpec.ofChange fnWayHoldsStrongPairsWrong)

end Rows
end Go.Proofs.Qxb6609405a

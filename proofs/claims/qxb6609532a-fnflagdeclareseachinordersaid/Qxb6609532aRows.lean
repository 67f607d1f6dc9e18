/-
  No cell of these rows narrows 'for every input' (looked for: loops, veiled, ifaces, maps, wideKeys, modest, calm, conditions, laid).
  DERIVED. THE GIVEN ROWS OF THIS SEAT. 1 by the template 'for every input the law returns true; each argument reads behind the call as it read before'; 0 by the template 'total and deterministic' (their statements: Qxb6609532aTotals.lean).
  GIVEN WITH THE SEED: the statements are not yours to turn. If you find one false, say at which input.
  Laid BY PROGRAM, IN A SANDBOX (cutbox-rows.mjs): the forced cells as the released guide's own fill.sh prints them over the translation 558cbf5c8ccee74e… (all of the seat's roots in one cut). By AI agents, Wed Nov 11 2026. No macro, syntax, notation, axiom, sorry.
-/
import Derived.Test.Qxb6609532aChecked
import GoSem.Claim
import GoSem.ClaimJoined
import GoSem.ClaimMapViews
import Derived.JoinedTies
import Derived.KernelRfl
namespace Go.Proofs.Qxb6609532a
/- THE CELL 'sum', in the pinned program and in every row, IS THE sha256 OF THE DUMP (.gsa) THAT Qxb6609532aProg.lean LOADS. Nothing in Lean hashes anything: it is a label: what it is worth is what the hold of that sum in a sandbox is worth. -/
noncomputable def Try.pinned : Pinned := { name := "qxb6609532a", sum := "558cbf5c8ccee74e648d3a0a77f7c2705fed5be21154a549d5254d79eee7ac83", checked := Try.checked }
namespace Rows
def none {H : Type} : Left H := { results := [], args := [] }

/-- 'zzlaws_root_b1.FnFlagDeclaresEachInOrder': WHATEVER THE INPUT: true; the input reads as it did. -/
def fnFlagDeclaresEachInOrderSpec : ChangeSpec := { name := "fnFlagDeclaresEachInOrder", fn := fun _ => fun
  | [d1, d2, d3] => { results := [.lit (.bool true)], args := [d1, d2, d3] }
  | _ => none }
def fnFlagDeclaresEachInOrderRow : OpenClaim := { program := "qxb6609532a", sum := "558cbf5c8ccee74e648d3a0a77f7c2705fed5be21154a549d5254d79eee7ac83", func := "example.com/tillerman/tillerman/zzlaws_root_b1.FnFlagDeclaresEachInOrder", spec := "fnFlagDeclaresEachInOrder", apart := false }
def FnFlagDeclaresEachInOrderSaid : Prop := fnFlagDeclaresEachInOrderRow.holds Try.pinned (OpenSpec.ofChange fnFlagDeclaresEachInOrderSpec)

/-- ITS FALSE NEIGHBOUR: 'it returns false'. Refute it at one input. -/
def fnFlagDeclaresEachInOrderWrong : ChangeSpec := { name := "fnFlagDeclaresEachInOrder", fn := fun _ => fun
  | [d1, d2, d3] => { results := [.lit (.bool false)], args := [d1, d2, d3] }
  | _ => none }
def FnFlagDeclaresEachInOrderWrongFalsely : Prop := fnFlagDeclaresEachInOrderRow.holds Try.pinned (OpenSpec.ofChange fnFlagDeclaresEachInOrderWrong)

end Rows
end Go.Proofs.Qxb6609532a

/-
  No cell of these rows narrows 'for every input' (looked for: loops, veiled, ifaces, maps, wideKeys, modest, calm, conditions, laid).
  DERIVED. THE GIVEN ROWS OF THIS SEAT. 1 by the template 'for every input the law returns true; each argument reads behind the call as it read before'; 0 by the template 'total and deterministic' (their statements: Qxb6609370aFmtTotals.lean).
  GIVEN WITH THE SEED: the statements are not yours to turn. If you find one false, say at which input.
  Laid BY PROGRAM, IN A SANDBOX (cutbox-rows.mjs): the forced cells as the released guide's own fill.sh prints them over the translation 6897b109d286a03e… (all of the seat's roots in one cut). By AI agents, Wed Nov 11 2026. No macro, syntax, notation, axiom, sorry.
-/
import Derived.Test.Qxb6609370aFmtChecked
import GoSem.Claim
import GoSem.ClaimJoined
import GoSem.ClaimMapViews
import Derived.JoinedTies
import Derived.KernelRfl
namespace Go.Proofs.Qxb6609370aFmt
/- THE CELL 'sum', in the pinned program and in every row, IS THE sha256 OF THE DUMP (.gsa) THAT Qxb6609370aFmtProg.lean LOADS. Nothing in Lean hashes anything: it is a label: what it is worth is what the hold of that sum in a sandbox is worth. -/
noncomputable def Tryf.pinned : Pinned := { name := "qxb6609370afmt", sum := "6897b109d286a03eaf6eb83fde9e7eb4b674ef7f1f93b3d30fe1eb7e36523db0", checked := Tryf.checked }
namespace Rows
def none {H : Type} : Left H := { results := [], args := [] }

/-- 'zzlaws_gateway_b1.FnUnansweredNoAnswerIsError': WHATEVER THE INPUT: true; the input reads as it did. -/
def fnUnansweredNoAnswerIsErrorSpec : ChangeSpec := { name := "fnUnansweredNoAnswerIsError", fn := fun _ => fun
  | [d1, d2, d3] => { results := [.lit (.bool true)], args := [d1, d2, d3] }
  | _ => none }
def fnUnansweredNoAnswerIsErrorRow : OpenClaim := { program := "qxb6609370afmt", sum := "6897b109d286a03eaf6eb83fde9e7eb4b674ef7f1f93b3d30fe1eb7e36523db0", func := "example.com/settled/settled/zzlaws_gateway_b1.FnUnansweredNoAnswerIsError", spec := "fnUnansweredNoAnswerIsError", stops := ["fmt.errorf"], inPlace := ["fmt.errorf"], apart := false }
/-- NO THEOREM (fmt's text is open here; it may be false): for the released tool's asking of the row's closed facts alone. THE STATEMENT IS 'FnUnansweredNoAnswerIsErrorToldSaid' (Qxb6609370aFmtCards.lean). -/
def FnUnansweredNoAnswerIsErrorFormAsk : Prop := fnUnansweredNoAnswerIsErrorRow.holds Tryf.pinned (OpenSpec.ofChange fnUnansweredNoAnswerIsErrorSpec)

/-- ITS FALSE NEIGHBOUR: 'it returns false'. Refute it at one input. -/
def fnUnansweredNoAnswerIsErrorWrong : ChangeSpec := { name := "fnUnansweredNoAnswerIsError", fn := fun _ => fun
  | [d1, d2, d3] => { results := [.lit (.bool false)], args := [d1, d2, d3] }
  | _ => none }
def FnUnansweredNoAnswerIsErrorWrongFormAsk : Prop := fnUnansweredNoAnswerIsErrorRow.holds Tryf.pinned (OpenSpec.ofChange fnUnansweredNoAnswerIsErrorWrong)

end Rows
end Go.Proofs.Qxb6609370aFmt

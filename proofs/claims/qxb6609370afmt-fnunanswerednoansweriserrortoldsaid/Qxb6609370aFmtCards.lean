/-
  DERIVED. GIVEN WITH THE SEED: THE CARDS: each row of Qxb6609370aFmtRows.lean that lists a variable, with what it lists TIED to the program's text (the seventh form; the later family's looks); each row that meets fmt, with fmt's text TOLD by the authors' own Lean function (tested against real Go, not proved from fmt's source: count such statements apart). THE CARD IS WHAT COUNTS. Prove the row's statement (the work); the ties are given (Qxb6609370aFmtTie.lean); close each card by the builder's one call (the guide's Derived/Test/ToyasCard.lean, 'card_holds'). Laid BY PROGRAM, IN A SANDBOX (cutbox-door.mjs). By AI agents, Wed Nov 11 2026. No macro, syntax, notation, axiom, sorry.
-/
import Derived.Test.Qxb6609370aFmtRows
import GoSem.ClaimSeven
namespace Go.Proofs.Qxb6609370aFmt
namespace Rows

/-- THE TOLD CARD OF 'zzlaws_gateway_b1.FnUnansweredNoAnswerIsError'. -/
def fnUnansweredNoAnswerIsErrorCard : Claim7 := { stood := { row := fnUnansweredNoAnswerIsErrorRow, standIns := [], harness := (true, "ba96b53e7783708fc417a8005a0163a0e2004563cf0a225088d192e3d0a26292"), looks := true }, told := true, goes := false }
def FnUnansweredNoAnswerIsErrorToldSaid : Prop := Claim7.holds Tryf.pinned (.plain (OpenSpec.ofChange fnUnansweredNoAnswerIsErrorSpec)) fnUnansweredNoAnswerIsErrorCard
/-- ITS FALSE NEIGHBOUR. Refute it at one input. -/
def FnUnansweredNoAnswerIsErrorToldWrongFalsely : Prop := Claim7.holds Tryf.pinned (.plain (OpenSpec.ofChange fnUnansweredNoAnswerIsErrorWrong)) fnUnansweredNoAnswerIsErrorCard
end Rows
end Go.Proofs.Qxb6609370aFmt

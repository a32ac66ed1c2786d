/-
  DERIVED. GIVEN WITH THE SEED: THE CARDS: each row of YbulkeiwiFmtRows.lean that lists a variable, with what it lists TIED to the program's text (the seventh form; the later family's looks); each row that meets fmt, with fmt's text TOLD by the authors' own Lean function (tested against real Go, not proved from fmt's source: count such statements apart). THE CARD IS WHAT COUNTS. Prove the row's statement (the work); the ties are given (YbulkeiwiFmtTie.lean); close each card by the builder's one call (the guide's Derived/Test/ToyasCard.lean, 'card_holds'). Laid BY PROGRAM, IN A SANDBOX (cutbox-door.mjs). By AI agents, Wed Nov 11 2026. No macro, syntax, notation, axiom, sorry.
-/
import Derived.Test.YbulkeiwiFmtRows
import GoSem.ClaimSeven
namespace Go.Proofs.YbulkeiwiFmt
namespace Rows

/-- THE TOLD CARD OF 'kltp.LawS6755AWhole'. -/
def lawS6755AWholeCard : Claim7 := { stood := { row := lawS6755AWholeRow, standIns := [], harness := (true, "04299d28ec61b485e57ecb98308341313cd5f02797e669c82a21c80e39042d9f"), looks := false }, told := true, goes := false }
def LawS6755AWholeToldSaid : Prop := Claim7.holds Ybaf.pinned (.plain (OpenSpec.ofChange lawS6755AWholeSpec)) lawS6755AWholeCard
/-- ITS FALSE NEIGHBOUR. Refute it at one input. -/
def LawS6755AWholeToldWrongFalsely : Prop := Claim7.holds Ybaf.pinned (.plain (OpenSpec.ofChange lawS6755AWholeWrong)) lawS6755AWholeCard
end Rows
end Go.Proofs.YbulkeiwiFmt

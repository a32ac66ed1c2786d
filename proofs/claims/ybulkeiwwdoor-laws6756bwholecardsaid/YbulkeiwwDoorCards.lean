/-
  DERIVED. GIVEN WITH THE SEED: THE CARDS: each row of YbulkeiwwDoorRows.lean that lists a variable, with what it lists TIED to the program's text (the seventh form; the later family's looks); each row that meets fmt, with fmt's text TOLD by the authors' own Lean function (tested against real Go, not proved from fmt's source: count such statements apart). THE CARD IS WHAT COUNTS. Prove the row's statement (the work); the ties are given (YbulkeiwwDoorTie.lean); close each card by the builder's one call (the guide's Derived/Test/ToyasCard.lean, 'card_holds'). Laid BY PROGRAM, IN A SANDBOX (cutbox-door.mjs). By AI agents, Wed Nov 11 2026. No macro, syntax, notation, axiom, sorry.
-/
import Derived.Test.YbulkeiwwDoorRows
import GoSem.ClaimSeven
namespace Go.Proofs.YbulkeiwwDoor
namespace Rows

/-- THE TIED CARD OF 'vertexbag.LawS6756BWhole'. -/
def lawS6756BWholeCard : Claim7 := { stood := { row := lawS6756BWholeRow, standIns := [], harness := (true, "79fb83457b472ff6209efcc50a65e2a7e9c765162a5543e01febb4f280ea02c2"), looks := false }, kinds := [], alts := [], laidByText := true, laidKinds := [.data], laidTests := true, laidLooks := .later }
def LawS6756BWholeCardSaid : Prop := Claim7.holds Ybad.pinned (.plain (OpenSpec.ofChange lawS6756BWholeSpec)) lawS6756BWholeCard
end Rows
end Go.Proofs.YbulkeiwwDoor

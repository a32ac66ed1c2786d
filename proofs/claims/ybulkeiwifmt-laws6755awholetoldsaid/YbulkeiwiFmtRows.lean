/-
  No cell of these rows narrows 'for every input' (looked for: loops, veiled, ifaces, maps, wideKeys, modest, calm, conditions, laid).
  DERIVED. THE GIVEN ROWS OF THIS SEAT. 1 by the template 'for every input the law returns true; each argument reads behind the call as it read before'; 0 by the template 'total and deterministic' (their statements: YbulkeiwiFmtTotals.lean).
  GIVEN WITH THE SEED: the statements are not yours to turn. If you find one false, say at which input.
  Laid BY PROGRAM, IN A SANDBOX (cutbox-rows.mjs): the forced cells as the released guide's own fill.sh prints them over the translation cf2d3ab2d022af20… (all of the seat's roots in one cut). By AI agents, Wed Nov 11 2026. No macro, syntax, notation, axiom, sorry.
-/
import Derived.Test.YbulkeiwiFmtChecked
import GoSem.Claim
import GoSem.ClaimJoined
import GoSem.ClaimMapViews
import Derived.JoinedTies
import Derived.KernelRfl
namespace Go.Proofs.YbulkeiwiFmt
/- THE CELL 'sum', in the pinned program and in every row, IS THE sha256 OF THE DUMP (.gsa) THAT YbulkeiwiFmtProg.lean LOADS. Nothing in Lean hashes anything: it is a label: what it is worth is what the hold of that sum in a sandbox is worth. -/
noncomputable def Ybaf.pinned : Pinned := { name := "ybulkeiwifmt", sum := "cf2d3ab2d022af20dc8481a27927a0610c34a129338c7ca184b88d1608c3266d", checked := Ybaf.checked }
namespace Rows
def none {H : Type} : Left H := { results := [], args := [] }

/-- 'kltp.LawS6755AWhole': WHATEVER THE INPUT: true; the input reads as it did. -/
def lawS6755AWholeSpec : ChangeSpec := { name := "lawS6755AWhole", fn := fun _ => fun
  | [d1, d2] => { results := [.lit (.bool true)], args := [d1, d2] }
  | _ => none }
def lawS6755AWholeRow : OpenClaim := { program := "ybulkeiwifmt", sum := "cf2d3ab2d022af20dc8481a27927a0610c34a129338c7ca184b88d1608c3266d", func := "example.com/framewire/framewire/kltp.LawS6755AWhole", spec := "lawS6755AWhole", stops := ["fmt.errorf"], inPlace := ["fmt.errorf"], apart := false }
/-- NO THEOREM (fmt's text is open here; it may be false): for the released tool's asking of the row's closed facts alone. THE STATEMENT IS 'LawS6755AWholeToldSaid' (YbulkeiwiFmtCards.lean). -/
def LawS6755AWholeFormAsk : Prop := lawS6755AWholeRow.holds Ybaf.pinned (OpenSpec.ofChange lawS6755AWholeSpec)

/-- ITS FALSE NEIGHBOUR: 'it returns false'. Refute it at one input. -/
def lawS6755AWholeWrong : ChangeSpec := { name := "lawS6755AWhole", fn := fun _ => fun
  | [d1, d2] => { results := [.lit (.bool false)], args := [d1, d2] }
  | _ => none }
def LawS6755AWholeWrongFormAsk : Prop := lawS6755AWholeRow.holds Ybaf.pinned (OpenSpec.ofChange lawS6755AWholeWrong)

end Rows
end Go.Proofs.YbulkeiwiFmt

/-
  No cell of these rows narrows 'for every input' (looked for: loops, veiled, ifaces, maps, wideKeys, modest, calm, conditions, laid).
  DERIVED. THE GIVEN ROWS OF THIS SEAT. 2 by the template 'for every input the law returns true; each argument reads behind the call as it read before'; 0 by the template 'total and deterministic' (their statements: YbulkeiwwTotals.lean).
  GIVEN WITH THE SEED: the statements are not yours to turn. If you find one false, say at which input.
  Laid BY PROGRAM, IN A SANDBOX (cutbox-rows.mjs): the forced cells as the released guide's own fill.sh prints them over the translation 752dbf6ac1b438e3… (all of the seat's roots in one cut). By AI agents, Wed Nov 11 2026. No macro, syntax, notation, axiom, sorry.
-/
import Derived.Test.YbulkeiwwChecked
import GoSem.Claim
import GoSem.ClaimJoined
import GoSem.ClaimMapViews
import Derived.JoinedTies
import Derived.KernelRfl
namespace Go.Proofs.Ybulkeiww
/- THE CELL 'sum', in the pinned program and in every row, IS THE sha256 OF THE DUMP (.gsa) THAT YbulkeiwwProg.lean LOADS. Nothing in Lean hashes anything: it is a label: what it is worth is what the hold of that sum in a sandbox is worth. -/
noncomputable def Yba.pinned : Pinned := { name := "ybulkeiww", sum := "752dbf6ac1b438e3b4f7b1596569cdbde385016a9eb6e0bb6bf416272329a11f", checked := Yba.checked }
namespace Rows
def none {H : Type} : Left H := { results := [], args := [] }

/-- 'linediff.LawS6756CWhole': WHATEVER THE INPUT: true; the input reads as it did. -/
def lawS6756CWholeSpec : ChangeSpec := { name := "lawS6756CWhole", fn := fun _ => fun
  | [d1, d2] => { results := [.lit (.bool true)], args := [d1, d2] }
  | _ => none }
def lawS6756CWholeRow : OpenClaim := { program := "ybulkeiww", sum := "752dbf6ac1b438e3b4f7b1596569cdbde385016a9eb6e0bb6bf416272329a11f", func := "example.com/vertexbag/vertexbag/cmd/vertexbag/internal/linediff.LawS6756CWhole", spec := "lawS6756CWhole", apart := false }
def LawS6756CWholeSaid : Prop := lawS6756CWholeRow.holds Yba.pinned (OpenSpec.ofChange lawS6756CWholeSpec)

/-- ITS FALSE NEIGHBOUR: 'it returns false'. Refute it at one input. -/
def lawS6756CWholeWrong : ChangeSpec := { name := "lawS6756CWhole", fn := fun _ => fun
  | [d1, d2] => { results := [.lit (.bool false)], args := [d1, d2] }
  | _ => none }
def LawS6756CWholeWrongFalsely : Prop := lawS6756CWholeRow.holds Yba.pinned (OpenSpec.ofChange lawS6756CWholeWrong)

/-- 'linediff.LawS6756CShift': WHATEVER THE INPUT: true; the input reads as it did. -/
def lawS6756CShiftSpec : ChangeSpec := { name := "lawS6756CShift", fn := fun _ => fun
  | [d1, d2, d3] => { results := [.lit (.bool true)], args := [d1, d2, d3] }
  | _ => none }
def lawS6756CShiftRow : OpenClaim := { program := "ybulkeiww", sum := "752dbf6ac1b438e3b4f7b1596569cdbde385016a9eb6e0bb6bf416272329a11f", func := "example.com/vertexbag/vertexbag/cmd/vertexbag/internal/linediff.LawS6756CShift", spec := "lawS6756CShift", apart := false }
def LawS6756CShiftSaid : Prop := lawS6756CShiftRow.holds Yba.pinned (OpenSpec.ofChange lawS6756CShiftSpec)

/-- ITS FALSE NEIGHBOUR: 'it returns false'. Refute it at one input. -/
def lawS6756CShiftWrong : ChangeSpec := { name := "lawS6756CShift", fn := fun _ => fun
  | [d1, d2, d3] => { results := [.lit (.bool false)], args := [d1, d2, d3] }
  | _ => none }
def LawS6756CShiftWrongFalsely : Prop := lawS6756CShiftRow.holds Yba.pinned (OpenSpec.ofChange lawS6756CShiftWrong)

end Rows
end Go.Proofs.Ybulkeiww

/-
  No cell of these rows narrows 'for every input' (looked for: loops, veiled, ifaces, maps, wideKeys, modest, calm, conditions, laid).
  DERIVED. THE GIVEN ROWS OF THIS SEAT. 1 by the template 'for every input the law returns true; each argument reads behind the call as it read before'; 0 by the template 'total and deterministic' (their statements: YbulkeixyTotals.lean).
  GIVEN WITH THE SEED: the statements are not yours to turn. If you find one false, say at which input.
  Laid BY PROGRAM, IN A SANDBOX (cutbox-rows.mjs): the forced cells as the released guide's own fill.sh prints them over the translation af6807785641132e… (all of the seat's roots in one cut). By AI agents, Wed Nov 11 2026. No macro, syntax, notation, axiom, sorry.
-/
import Derived.Test.YbulkeixyChecked
import GoSem.Claim
import GoSem.ClaimJoined
import GoSem.ClaimMapViews
import Derived.JoinedTies
import Derived.KernelRfl
namespace Go.Proofs.Ybulkeixy
/- THE CELL 'sum', in the pinned program and in every row, IS THE sha256 OF THE DUMP (.gsa) THAT YbulkeixyProg.lean LOADS. Nothing in Lean hashes anything: it is a label: what it is worth is what the hold of that sum in a sandbox is worth. -/
noncomputable def Yba.pinned : Pinned := { name := "ybulkeixy", sum := "af6807785641132ec7c355c1e99833ba24a51e0a0c2c3eff471cc63c0f755abe", checked := Yba.checked }
namespace Rows
def none {H : Type} : Left H := { results := [], args := [] }

/-- 'provider.LawS6758AWhole': WHATEVER THE INPUT: true; the input reads as it did. -/
def lawS6758AWholeSpec : ChangeSpec := { name := "lawS6758AWhole", fn := fun _ => fun
  | [d1, d2, d3, d4] => { results := [.lit (.bool true)], args := [d1, d2, d3, d4] }
  | _ => none }
def lawS6758AWholeRow : OpenClaim := { program := "ybulkeixy", sum := "af6807785641132ec7c355c1e99833ba24a51e0a0c2c3eff471cc63c0f755abe", func := "example.com/stowbond/stowbond/internal/provider.LawS6758AWhole", spec := "lawS6758AWhole", apart := false }
def LawS6758AWholeSaid : Prop := lawS6758AWholeRow.holds Yba.pinned (OpenSpec.ofChange lawS6758AWholeSpec)

/-- ITS FALSE NEIGHBOUR: 'it returns false'. Refute it at one input. -/
def lawS6758AWholeWrong : ChangeSpec := { name := "lawS6758AWhole", fn := fun _ => fun
  | [d1, d2, d3, d4] => { results := [.lit (.bool false)], args := [d1, d2, d3, d4] }
  | _ => none }
def LawS6758AWholeWrongFalsely : Prop := lawS6758AWholeRow.holds Yba.pinned (OpenSpec.ofChange lawS6758AWholeWrong)

end Rows
end Go.Proofs.Ybulkeixy

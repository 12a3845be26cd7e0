/-
  No cell of these rows narrows 'for every input' (looked for: loops, veiled, ifaces, maps, wideKeys, modest, calm, conditions, laid).
  DERIVED. THE GIVEN ROWS OF THIS SEAT. 1 by the template 'for every input the law returns true; each argument reads behind the call as it read before'; 0 by the template 'total and deterministic' (their statements: YbulkffegTotals.lean).
  GIVEN WITH THE SEED: the statements are not yours to turn. If you find one false, say at which input.
  Laid BY PROGRAM, IN A SANDBOX (cutbox-rows.mjs): the forced cells as the released guide's own fill.sh prints them over the translation 4c86a1b6d0e7a9cd… (all of the seat's roots in one cut). By AI agents, Wed Nov 11 2026. No macro, syntax, notation, axiom, sorry.
-/
import Derived.Test.YbulkffegChecked
import GoSem.Claim
import GoSem.ClaimJoined
import GoSem.ClaimMapViews
import Derived.JoinedTies
import Derived.KernelRfl
namespace Go.Proofs.Ybulkffeg
/- THE CELL 'sum', in the pinned program and in every row, IS THE sha256 OF THE DUMP (.gsa) THAT YbulkffegProg.lean LOADS. Nothing in Lean hashes anything: it is a label: what it is worth is what the hold of that sum in a sandbox is worth. -/
noncomputable def Yba.pinned : Pinned := { name := "ybulkffeg", sum := "4c86a1b6d0e7a9cdfe3c59ed6d656b195fa10238d89bd44ce5215599601831ea", checked := Yba.checked }
namespace Rows
def none {H : Type} : Left H := { results := [], args := [] }

/-- 'numerand.LawS7832BWhole': WHATEVER THE INPUT: true; the input reads as it did. -/
def lawS7832BWholeSpec : ChangeSpec := { name := "lawS7832BWhole", fn := fun _ => fun
  | [d] => { results := [.lit (.bool true)], args := [d] }
  | _ => none }
def lawS7832BWholeRow : OpenClaim := { program := "ybulkffeg", sum := "4c86a1b6d0e7a9cdfe3c59ed6d656b195fa10238d89bd44ce5215599601831ea", func := "example.com/numerand/numerand.LawS7832BWhole", spec := "lawS7832BWhole", apart := false }
def LawS7832BWholeSaid : Prop := lawS7832BWholeRow.holds Yba.pinned (OpenSpec.ofChange lawS7832BWholeSpec)

/-- ITS FALSE NEIGHBOUR: 'it returns false'. Refute it at one input. -/
def lawS7832BWholeWrong : ChangeSpec := { name := "lawS7832BWhole", fn := fun _ => fun
  | [d] => { results := [.lit (.bool false)], args := [d] }
  | _ => none }
def LawS7832BWholeWrongFalsely : Prop := lawS7832BWholeRow.holds Yba.pinned (OpenSpec.ofChange lawS7832BWholeWrong)

end Rows
end Go.Proofs.Ybulkffeg

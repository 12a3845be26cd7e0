/-
  No cell of these rows narrows 'for every input' (looked for: loops, veiled, ifaces, maps, wideKeys, modest, calm, conditions, laid).
  DERIVED. THE GIVEN ROWS OF THIS SEAT. 1 by the template 'for every input the law returns true; each argument reads behind the call as it read before'; 0 by the template 'total and deterministic' (their statements: YbulkfgikTotals.lean).
  GIVEN WITH THE SEED: the statements are not yours to turn. If you find one false, say at which input.
  Laid BY PROGRAM, IN A SANDBOX (cutbox-rows.mjs): the forced cells as the released guide's own fill.sh prints them over the translation 1012759516a2ce15… (all of the seat's roots in one cut). By AI agents, Wed Nov 11 2026. No macro, syntax, notation, axiom, sorry.
-/
import Derived.Test.YbulkfgikChecked
import GoSem.Claim
import GoSem.ClaimJoined
import GoSem.ClaimMapViews
import Derived.JoinedTies
import Derived.KernelRfl
namespace Go.Proofs.Ybulkfgik
/- THE CELL 'sum', in the pinned program and in every row, IS THE sha256 OF THE DUMP (.gsa) THAT YbulkfgikProg.lean LOADS. Nothing in Lean hashes anything: it is a label: what it is worth is what the hold of that sum in a sandbox is worth. -/
noncomputable def Yba.pinned : Pinned := { name := "ybulkfgik", sum := "1012759516a2ce15045eecbdd7882e7e864557469ea781c82613dedbc95d1369", checked := Yba.checked }
namespace Rows
def none {H : Type} : Left H := { results := [], args := [] }

/-- 'ledger.LawS7888BWhole': WHATEVER THE INPUT: true; the input reads as it did. -/
def lawS7888BWholeSpec : ChangeSpec := { name := "lawS7888BWhole", fn := fun _ => fun
  | [d1, d2, d3, d4, d5] => { results := [.lit (.bool true)], args := [d1, d2, d3, d4, d5] }
  | _ => none }
def lawS7888BWholeRow : OpenClaim := { program := "ybulkfgik", sum := "1012759516a2ce15045eecbdd7882e7e864557469ea781c82613dedbc95d1369", func := "example.com/fuero/fuero/ledger.LawS7888BWhole", spec := "lawS7888BWhole", plainKeys := false, apart := false }
def LawS7888BWholeSaid : Prop := lawS7888BWholeRow.holds Yba.pinned (OpenSpec.ofChange lawS7888BWholeSpec)

/-- ITS FALSE NEIGHBOUR: 'it returns false'. Refute it at one input. -/
def lawS7888BWholeWrong : ChangeSpec := { name := "lawS7888BWhole", fn := fun _ => fun
  | [d1, d2, d3, d4, d5] => { results := [.lit (.bool false)], args := [d1, d2, d3, d4, d5] }
  | _ => none }
def LawS7888BWholeWrongFalsely : Prop := lawS7888BWholeRow.holds Yba.pinned (OpenSpec.ofChange lawS7888BWholeWrong)

end Rows
end Go.Proofs.Ybulkfgik

/-
  No cell of these rows narrows 'for every input' (looked for: loops, veiled, ifaces, maps, wideKeys, modest, calm, conditions, laid).
  DERIVED. THE GIVEN ROWS OF THIS SEAT. 2 by the template 'for every input the law returns true; each argument reads behind the call as it read before'; 0 by the template 'total and deterministic' (their statements: YbulkfepsTotals.lean).
  GIVEN WITH THE SEED: the statements are not yours to turn. If you find one false, say at which input.
  Laid BY PROGRAM, IN A SANDBOX (cutbox-rows.mjs): the forced cells as the released guide's own fill.sh prints them over the translation 6824ce11ef977c15… (all of the seat's roots in one cut). By AI agents, Wed Nov 11 2026. No macro, syntax, notation, axiom, sorry.
-/
import Derived.Test.YbulkfepsChecked
import GoSem.Claim
import GoSem.ClaimJoined
import GoSem.ClaimMapViews
import Derived.JoinedTies
import Derived.KernelRfl
namespace Go.Proofs.Ybulkfeps
/- THE CELL 'sum', in the pinned program and in every row, IS THE sha256 OF THE DUMP (.gsa) THAT YbulkfepsProg.lean LOADS. Nothing in Lean hashes anything: it is a label: what it is worth is what the hold of that sum in a sandbox is worth. -/
noncomputable def Yba.pinned : Pinned := { name := "ybulkfeps", sum := "6824ce11ef977c15d1406a10aded70a6b16ac517ab4e7a2f98ffe00fa527abc3", checked := Yba.checked }
namespace Rows
def none {H : Type} : Left H := { results := [], args := [] }

/-- 'rings.LawS7805AWhole': WHATEVER THE INPUT: true; the input reads as it did. -/
def lawS7805AWholeSpec : ChangeSpec := { name := "lawS7805AWhole", fn := fun _ => fun
  | [d1, d2, d3] => { results := [.lit (.bool true)], args := [d1, d2, d3] }
  | _ => none }
def lawS7805AWholeRow : OpenClaim := { program := "ybulkfeps", sum := "6824ce11ef977c15d1406a10aded70a6b16ac517ab4e7a2f98ffe00fa527abc3", func := "example.com/ringmend/ringmend/rings.LawS7805AWhole", spec := "lawS7805AWhole", plainKeys := false, apart := false }
def LawS7805AWholeSaid : Prop := lawS7805AWholeRow.holds Yba.pinned (OpenSpec.ofChange lawS7805AWholeSpec)

/-- ITS FALSE NEIGHBOUR: 'it returns false'. Refute it at one input. -/
def lawS7805AWholeWrong : ChangeSpec := { name := "lawS7805AWhole", fn := fun _ => fun
  | [d1, d2, d3] => { results := [.lit (.bool false)], args := [d1, d2, d3] }
  | _ => none }
def LawS7805AWholeWrongFalsely : Prop := lawS7805AWholeRow.holds Yba.pinned (OpenSpec.ofChange lawS7805AWholeWrong)

/-- 'sim.LawS7805BWhole': WHATEVER THE INPUT: true; the input reads as it did. -/
def lawS7805BWholeSpec : ChangeSpec := { name := "lawS7805BWhole", fn := fun _ => fun
  | [d1, d2, d3, d4, d5, d6] => { results := [.lit (.bool true)], args := [d1, d2, d3, d4, d5, d6] }
  | _ => none }
def lawS7805BWholeRow : OpenClaim := { program := "ybulkfeps", sum := "6824ce11ef977c15d1406a10aded70a6b16ac517ab4e7a2f98ffe00fa527abc3", func := "example.com/ringmend/ringmend/sim.LawS7805BWhole", spec := "lawS7805BWhole", unfollowed := true, recurses := true, plainKeys := false, apart := false }
def LawS7805BWholeSaid : Prop := lawS7805BWholeRow.holds Yba.pinned (OpenSpec.ofChange lawS7805BWholeSpec)

/-- ITS FALSE NEIGHBOUR: 'it returns false'. Refute it at one input. -/
def lawS7805BWholeWrong : ChangeSpec := { name := "lawS7805BWhole", fn := fun _ => fun
  | [d1, d2, d3, d4, d5, d6] => { results := [.lit (.bool false)], args := [d1, d2, d3, d4, d5, d6] }
  | _ => none }
def LawS7805BWholeWrongFalsely : Prop := lawS7805BWholeRow.holds Yba.pinned (OpenSpec.ofChange lawS7805BWholeWrong)

end Rows
end Go.Proofs.Ybulkfeps

/-
  NARROWER THAN 'FOR EVERY INPUT', by the rows' own cells (each row's printed sentence says how): LawS7829CWhole: laid.
  DERIVED. THE GIVEN ROWS OF THIS SEAT. 1 by the template 'for every input the law returns true; each argument reads behind the call as it read before'; 0 by the template 'total and deterministic' (their statements: YbulkffcqDoorTotals.lean).
  GIVEN WITH THE SEED: the statements are not yours to turn. If you find one false, say at which input.
  Laid BY PROGRAM, IN A SANDBOX (cutbox-rows.mjs): the forced cells as the released guide's own fill.sh prints them over the translation db699061e8e45217… (all of the seat's roots in one cut). By AI agents, Wed Nov 11 2026. No macro, syntax, notation, axiom, sorry.
-/
import Derived.Test.YbulkffcqDoorChecked
import GoSem.Claim
import GoSem.ClaimJoined
import GoSem.ClaimMapViews
import Derived.JoinedTies
import Derived.KernelRfl
namespace Go.Proofs.YbulkffcqDoor
/- THE CELL 'sum', in the pinned program and in every row, IS THE sha256 OF THE DUMP (.gsa) THAT YbulkffcqDoorProg.lean LOADS. Nothing in Lean hashes anything: it is a label: what it is worth is what the hold of that sum in a sandbox is worth. -/
noncomputable def Ybad.pinned : Pinned := { name := "ybulkffcqdoor", sum := "db699061e8e45217660a7cc5c9e72729327c265d91c18beae8c890ca659e3156", checked := Ybad.checked }
namespace Rows
def none {H : Type} : Left H := { results := [], args := [] }

/- WHAT THE LISTED PACKAGE-LEVEL VARIABLES READ AS WHEN THE CALL BEGINS. Each datum BY PROGRAM (the guide's laid-datum.mjs) off the statement by which the dump's own 'gosem.cut.vars' lays the variable. In a bare row this is a premise. The card (YbulkffcqDoorCards.lean) ties it to the program's text. -/
def laid_example_com_grainlock_grainlock_compatibility {H : Type} : DataW H := .agg [.agg [.lit (.bool true), .lit (.bool true), .lit (.bool true), .lit (.bool true), .lit (.bool true), .lit (.bool true), .lit (.bool true)], .agg [.lit (.bool true), .lit (.bool true), .lit (.bool true), .lit (.bool true), .lit (.bool true), .lit (.bool false), .lit (.bool false)], .agg [.lit (.bool true), .lit (.bool true), .lit (.bool true), .lit (.bool false), .lit (.bool false), .lit (.bool false), .lit (.bool false)], .agg [.lit (.bool true), .lit (.bool true), .lit (.bool false), .lit (.bool true), .lit (.bool false), .lit (.bool false), .lit (.bool false)], .agg [.lit (.bool true), .lit (.bool true), .lit (.bool false), .lit (.bool false), .lit (.bool false), .lit (.bool false), .lit (.bool false)], .agg [.lit (.bool true), .lit (.bool false), .lit (.bool false), .lit (.bool true), .lit (.bool false), .lit (.bool false), .lit (.bool false)], .agg [.lit (.bool true), .lit (.bool false), .lit (.bool false), .lit (.bool false), .lit (.bool false), .lit (.bool false), .lit (.bool false)]]

/-- 'grainlock.LawS7829CWhole': WHATEVER THE INPUT: true; the input reads as it did. -/
def lawS7829CWholeSpec : ChangeSpec := { name := "lawS7829CWhole", vars := ["example.com/grainlock/grainlock.compatibility"], fn := fun _ => fun
  | [d1, d2, d3, d4, d5, g1] => { results := [.lit (.bool true)], args := [d1, d2, d3, d4, d5], vars := [g1] }
  | _ => none }
def lawS7829CWholeRow : OpenClaim := { program := "ybulkffcqdoor", sum := "db699061e8e45217660a7cc5c9e72729327c265d91c18beae8c890ca659e3156", func := "example.com/grainlock/grainlock.LawS7829CWhole", spec := "lawS7829CWhole", unfollowed := true, recurses := true, named := ["example.com/grainlock/grainlock.compatibility"], plainKeys := false, apart := false, laid := [("example.com/grainlock/grainlock.compatibility", laid_example_com_grainlock_grainlock_compatibility)] }
def LawS7829CWholeSaid : Prop := lawS7829CWholeRow.holds Ybad.pinned (OpenSpec.ofChange lawS7829CWholeSpec)

/-- ITS FALSE NEIGHBOUR: 'it returns false'. Refute it at one input. -/
def lawS7829CWholeWrong : ChangeSpec := { name := "lawS7829CWhole", vars := ["example.com/grainlock/grainlock.compatibility"], fn := fun _ => fun
  | [d1, d2, d3, d4, d5, g1] => { results := [.lit (.bool false)], args := [d1, d2, d3, d4, d5], vars := [g1] }
  | _ => none }
def LawS7829CWholeWrongFalsely : Prop := lawS7829CWholeRow.holds Ybad.pinned (OpenSpec.ofChange lawS7829CWholeWrong)

end Rows
end Go.Proofs.YbulkffcqDoor

/-
  DERIVED. GIVEN WITH THE SEED: THE CARDS: each row of YbulkffcqDoorRows.lean that lists a variable, with what it lists TIED to the program's text (the seventh form; the later family's looks); each row that meets fmt, with fmt's text TOLD by the authors' own Lean function (tested against real Go, not proved from fmt's source: count such statements apart). THE CARD IS WHAT COUNTS. Prove the row's statement (the work); the ties are given (YbulkffcqDoorTie.lean); close each card by the builder's one call (the guide's Derived/Test/ToyasCard.lean, 'card_holds'). Laid BY PROGRAM, IN A SANDBOX (cutbox-door.mjs). By AI agents, Wed Nov 11 2026. No macro, syntax, notation, axiom, sorry.
-/
import Derived.Test.YbulkffcqDoorRows
import GoSem.ClaimSeven
namespace Go.Proofs.YbulkffcqDoor
namespace Rows

/-- THE TIED CARD OF 'grainlock.LawS7829CWhole'. -/
def lawS7829CWholeCard : Claim7 := { stood := { row := lawS7829CWholeRow, standIns := [], harness := (true, "d263a368731a4ed8bbf68cea2d24ec2ec8774d73249d26d02980fc957681db1f"), looks := false }, kinds := [], alts := [], laidByText := true, laidKinds := [.wider], laidTests := true, laidLooks := .later }
def LawS7829CWholeCardSaid : Prop := Claim7.holds Ybad.pinned (.plain (OpenSpec.ofChange lawS7829CWholeSpec)) lawS7829CWholeCard
end Rows
end Go.Proofs.YbulkffcqDoor

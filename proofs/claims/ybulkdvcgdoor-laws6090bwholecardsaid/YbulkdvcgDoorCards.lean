/-
  DERIVED. GIVEN WITH THE SEED: THE CARDS: each row of YbulkdvcgDoorRows.lean that lists a variable, with what it lists TIED to the program's text (the seventh form; the later family's looks); each row that meets fmt, with fmt's text TOLD by the authors' own Lean function (tested against real Go, not proved from fmt's source: count such statements apart). THE CARD IS WHAT COUNTS. Prove the row's statement (the work); the ties are given (YbulkdvcgDoorTie.lean); close each card by the builder's one call (the guide's Derived/Test/ToyasCard.lean, 'card_holds'). Laid BY PROGRAM, IN A SANDBOX (cutbox-door.mjs). By AI agents, Wed Nov 11 2026. No macro, syntax, notation, axiom, sorry.
-/
import Derived.Test.YbulkdvcgDoorRows
import GoSem.ClaimSeven
namespace Go.Proofs.YbulkdvcgDoor
namespace Rows

/-- THE TIED CARD OF 'arcorder.LawS6090BWhole'. -/
def lawS6090BWholeCard : Claim7 := { stood := { row := lawS6090BWholeRow, standIns := [], harness := (true, "d4d7b4d095bbdcadfb9acb2cc0613d24634ec39089274efc48b2805646519bbd"), looks := false }, kinds := [], alts := [], laidByText := true, laidKinds := [.data], laidTests := true, laidLooks := .later }
def LawS6090BWholeCardSaid : Prop := Claim7.holds Ybad.pinned (.plain (OpenSpec.ofChange lawS6090BWholeSpec)) lawS6090BWholeCard
end Rows
end Go.Proofs.YbulkdvcgDoor

/-
  DERIVED. GIVEN WITH THE SEED: THE CARDS: each row of YbulkdvcuDoorRows.lean that lists a variable, with what it lists TIED to the program's text (the seventh form; the later family's looks); each row that meets fmt, with fmt's text TOLD by the authors' own Lean function (tested against real Go, not proved from fmt's source: count such statements apart). THE CARD IS WHAT COUNTS. Prove the row's statement (the work); the ties are given (YbulkdvcuDoorTie.lean); close each card by the builder's one call (the guide's Derived/Test/ToyasCard.lean, 'card_holds'). Laid BY PROGRAM, IN A SANDBOX (cutbox-door.mjs). By AI agents, Wed Nov 11 2026. No macro, syntax, notation, axiom, sorry.
-/
import Derived.Test.YbulkdvcuDoorRows
import GoSem.ClaimSeven
namespace Go.Proofs.YbulkdvcuDoor
namespace Rows

/-- THE TIED CARD OF 'register.LawS6091BWhole'. -/
def lawS6091BWholeCard : Claim7 := { stood := { row := lawS6091BWholeRow, standIns := [], harness := (true, "198968046190a0482f47d318c2e78c65394349dd02ebf5bcafe37e37167a10cb"), looks := false }, kinds := [], alts := [], laidByText := true, laidKinds := [.data], laidTests := true, laidLooks := .later }
def LawS6091BWholeCardSaid : Prop := Claim7.holds Ybad.pinned (.plain (OpenSpec.ofChange lawS6091BWholeSpec)) lawS6091BWholeCard
end Rows
end Go.Proofs.YbulkdvcuDoor

/-
  No cell of these rows narrows 'for every input' (looked for: loops, veiled, ifaces, maps, wideKeys, modest, calm, conditions, laid).
  DERIVED. THE GIVEN ROWS OF THIS SEAT. 1 by the template 'for every input the law returns true; each argument reads behind the call as it read before'; 0 by the template 'total and deterministic' (their statements: YbulkdvbeTotals.lean).
  GIVEN WITH THE SEED: the statements are not yours to turn. If you find one false, say at which input.
  Laid BY PROGRAM, IN A SANDBOX (cutbox-rows.mjs): the forced cells as the released guide's own fill.sh prints them over the translation 7631bdba13c137b3… (all of the seat's roots in one cut). By AI agents, Wed Nov 11 2026. No macro, syntax, notation, axiom, sorry.
-/
import Derived.Test.YbulkdvbeChecked
import GoSem.Claim
import GoSem.ClaimJoined
import GoSem.ClaimMapViews
import Derived.JoinedTies
import Derived.KernelRfl
namespace Go.Proofs.Ybulkdvbe
/- THE CELL 'sum', in the pinned program and in every row, IS THE sha256 OF THE DUMP (.gsa) THAT YbulkdvbeProg.lean LOADS. Nothing in Lean hashes anything: it is a label: what it is worth is what the hold of that sum in a sandbox is worth. -/
noncomputable def Yba.pinned : Pinned := { name := "ybulkdvbe", sum := "7631bdba13c137b3415bf93077d7c8dda61f06652cb1a08076c52158166d67c0", checked := Yba.checked }
namespace Rows
def none {H : Type} : Left H := { results := [], args := [] }

/-- 'quorumline.LawS6088CWhole': WHATEVER THE INPUT: true; the input reads as it did. -/
def lawS6088CWholeSpec : ChangeSpec := { name := "lawS6088CWhole", fn := fun _ => fun
  | [d] => { results := [.lit (.bool true)], args := [d] }
  | _ => none }
def lawS6088CWholeRow : OpenClaim := { program := "ybulkdvbe", sum := "7631bdba13c137b3415bf93077d7c8dda61f06652cb1a08076c52158166d67c0", func := "example.com/quorumline/quorumline.LawS6088CWhole", spec := "lawS6088CWhole", apart := false }
def LawS6088CWholeSaid : Prop := lawS6088CWholeRow.holds Yba.pinned (OpenSpec.ofChange lawS6088CWholeSpec)

/-- ITS FALSE NEIGHBOUR: 'it returns false'. Refute it at one input. -/
def lawS6088CWholeWrong : ChangeSpec := { name := "lawS6088CWhole", fn := fun _ => fun
  | [d] => { results := [.lit (.bool false)], args := [d] }
  | _ => none }
def LawS6088CWholeWrongFalsely : Prop := lawS6088CWholeRow.holds Yba.pinned (OpenSpec.ofChange lawS6088CWholeWrong)

end Rows
end Go.Proofs.Ybulkdvbe

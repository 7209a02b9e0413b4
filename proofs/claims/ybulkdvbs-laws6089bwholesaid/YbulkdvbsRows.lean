/-
  No cell of these rows narrows 'for every input' (looked for: loops, veiled, ifaces, maps, wideKeys, modest, calm, conditions, laid).
  DERIVED. THE GIVEN ROWS OF THIS SEAT. 1 by the template 'for every input the law returns true; each argument reads behind the call as it read before'; 0 by the template 'total and deterministic' (their statements: YbulkdvbsTotals.lean).
  GIVEN WITH THE SEED: the statements are not yours to turn. If you find one false, say at which input.
  Laid BY PROGRAM, IN A SANDBOX (cutbox-rows.mjs): the forced cells as the released guide's own fill.sh prints them over the translation 15a479a3dfb2da6d… (all of the seat's roots in one cut). By AI agents, Wed Nov 11 2026. No macro, syntax, notation, axiom, sorry.
-/
import Derived.Test.YbulkdvbsChecked
import GoSem.Claim
import GoSem.ClaimJoined
import GoSem.ClaimMapViews
import Derived.JoinedTies
import Derived.KernelRfl
namespace Go.Proofs.Ybulkdvbs
/- THE CELL 'sum', in the pinned program and in every row, IS THE sha256 OF THE DUMP (.gsa) THAT YbulkdvbsProg.lean LOADS. Nothing in Lean hashes anything: it is a label: what it is worth is what the hold of that sum in a sandbox is worth. -/
noncomputable def Yba.pinned : Pinned := { name := "ybulkdvbs", sum := "15a479a3dfb2da6db3af839eae948307acf78259bc25dfa84a9705cba0ce8a98", checked := Yba.checked }
namespace Rows
def none {H : Type} : Left H := { results := [], args := [] }

/-- 'check.LawS6089BWhole': WHATEVER THE INPUT: true; the input reads as it did. -/
def lawS6089BWholeSpec : ChangeSpec := { name := "lawS6089BWhole", fn := fun _ => fun
  | [d1, d2, d3] => { results := [.lit (.bool true)], args := [d1, d2, d3] }
  | _ => none }
def lawS6089BWholeRow : OpenClaim := { program := "ybulkdvbs", sum := "15a479a3dfb2da6db3af839eae948307acf78259bc25dfa84a9705cba0ce8a98", func := "example.com/interlace/interlace/internal/check.LawS6089BWhole", spec := "lawS6089BWhole", apart := false }
def LawS6089BWholeSaid : Prop := lawS6089BWholeRow.holds Yba.pinned (OpenSpec.ofChange lawS6089BWholeSpec)

/-- ITS FALSE NEIGHBOUR: 'it returns false'. Refute it at one input. -/
def lawS6089BWholeWrong : ChangeSpec := { name := "lawS6089BWhole", fn := fun _ => fun
  | [d1, d2, d3] => { results := [.lit (.bool false)], args := [d1, d2, d3] }
  | _ => none }
def LawS6089BWholeWrongFalsely : Prop := lawS6089BWholeRow.holds Yba.pinned (OpenSpec.ofChange lawS6089BWholeWrong)

end Rows
end Go.Proofs.Ybulkdvbs

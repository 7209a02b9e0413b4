/-
  No cell of these rows narrows 'for every input' (looked for: loops, veiled, ifaces, maps, wideKeys, modest, calm, conditions, laid).
  DERIVED. THE GIVEN ROWS OF THIS SEAT. 1 by the template 'for every input the law returns true; each argument reads behind the call as it read before'; 0 by the template 'total and deterministic' (their statements: YbulkdvbsGreatTotals.lean).
  GIVEN WITH THE SEED: the statements are not yours to turn. If you find one false, say at which input.
  Laid BY PROGRAM, IN A SANDBOX (cutbox-rows.mjs): the forced cells as the released guide's own fill.sh prints them over the translation 5d2951942c7349fb… (all of the seat's roots in one cut). By AI agents, Wed Nov 11 2026. No macro, syntax, notation, axiom, sorry.
-/
import Derived.Test.YbulkdvbsGreatChecked
import GoSem.Claim
import GoSem.ClaimJoined
import GoSem.ClaimMapViews
import Derived.JoinedTies
import Derived.KernelRfl
namespace Go.Proofs.YbulkdvbsGreat
/- THE CELL 'sum', in the pinned program and in every row, IS THE sha256 OF THE DUMP (.gsa) THAT YbulkdvbsGreatProg.lean LOADS. Nothing in Lean hashes anything: it is a label: what it is worth is what the hold of that sum in a sandbox is worth. -/
noncomputable def Ybaz.pinned : Pinned := { name := "ybulkdvbsgreat", sum := "5d2951942c7349fb517ca6400e172cd80c392661e285ca65852d966ba78f4034", checked := Ybaz.checked }
namespace Rows
def none {H : Type} : Left H := { results := [], args := [] }

/-- 'check.LawS6089APart': WHATEVER THE INPUT: true; the input reads as it did. -/
def lawS6089APartSpec : ChangeSpec := { name := "lawS6089APart", fn := fun _ => fun
  | [d] => { results := [.lit (.bool true)], args := [d] }
  | _ => none }
def lawS6089APartRow : OpenClaim := { program := "ybulkdvbsgreat", sum := "5d2951942c7349fb517ca6400e172cd80c392661e285ca65852d966ba78f4034", func := "example.com/interlace/interlace/internal/check.LawS6089APart", spec := "lawS6089APart", unfollowed := true, recurses := true, apart := false }
def LawS6089APartSaid : Prop := lawS6089APartRow.holds Ybaz.pinned (OpenSpec.ofChange lawS6089APartSpec)

/-- ITS FALSE NEIGHBOUR: 'it returns false'. Refute it at one input. -/
def lawS6089APartWrong : ChangeSpec := { name := "lawS6089APart", fn := fun _ => fun
  | [d] => { results := [.lit (.bool false)], args := [d] }
  | _ => none }
def LawS6089APartWrongFalsely : Prop := lawS6089APartRow.holds Ybaz.pinned (OpenSpec.ofChange lawS6089APartWrong)

end Rows
end Go.Proofs.YbulkdvbsGreat

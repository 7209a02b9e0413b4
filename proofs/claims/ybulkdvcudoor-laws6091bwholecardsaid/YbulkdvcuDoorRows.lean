/-
  NARROWER THAN 'FOR EVERY INPUT', by the rows' own cells (each row's printed sentence says how): LawS6091BWhole: laid.
  DERIVED. THE GIVEN ROWS OF THIS SEAT. 1 by the template 'for every input the law returns true; each argument reads behind the call as it read before'; 0 by the template 'total and deterministic' (their statements: YbulkdvcuDoorTotals.lean).
  GIVEN WITH THE SEED: the statements are not yours to turn. If you find one false, say at which input.
  Laid BY PROGRAM, IN A SANDBOX (cutbox-rows.mjs): the forced cells as the released guide's own fill.sh prints them over the translation 573d55c58330294e… (all of the seat's roots in one cut). By AI agents, Wed Nov 11 2026. No macro, syntax, notation, axiom, sorry.
-/
import Derived.Test.YbulkdvcuDoorChecked
import GoSem.Claim
import GoSem.ClaimJoined
import GoSem.ClaimMapViews
import Derived.JoinedTies
import Derived.KernelRfl
namespace Go.Proofs.YbulkdvcuDoor
/- THE CELL 'sum', in the pinned program and in every row, IS THE sha256 OF THE DUMP (.gsa) THAT YbulkdvcuDoorProg.lean LOADS. Nothing in Lean hashes anything: it is a label: what it is worth is what the hold of that sum in a sandbox is worth. -/
noncomputable def Ybad.pinned : Pinned := { name := "ybulkdvcudoor", sum := "573d55c58330294e4f14e4d15ec5b40001feb7759edfbf34c46650e2911271a9", checked := Ybad.checked }
namespace Rows
def none {H : Type} : Left H := { results := [], args := [] }

/- WHAT THE LISTED PACKAGE-LEVEL VARIABLES READ AS WHEN THE CALL BEGINS. Each datum BY PROGRAM (the guide's laid-datum.mjs) off the statement by which the dump's own 'gosem.cut.vars' lays the variable. In a bare row this is a premise. The card (YbulkdvcuDoorCards.lean) ties it to the program's text. -/
def laid_example_com_kindred_ledger_kindred_ledger_pkg_register_prefixes {H : Type} : DataW H := .agg [.lit (.string []), .lit (.string [102, 111, 114, 109, 101, 114, 45]), .lit (.string [102, 117, 116, 117, 114, 101, 45])]

/-- 'register.LawS6091BWhole': WHATEVER THE INPUT: true; the input reads as it did. -/
def lawS6091BWholeSpec : ChangeSpec := { name := "lawS6091BWhole", vars := ["example.com/kindred-ledger/kindred-ledger/pkg/register.prefixes"], fn := fun _ => fun
  | [d1, d2, d3, g1] => { results := [.lit (.bool true)], args := [d1, d2, d3], vars := [g1] }
  | _ => none }
def lawS6091BWholeRow : OpenClaim := { program := "ybulkdvcudoor", sum := "573d55c58330294e4f14e4d15ec5b40001feb7759edfbf34c46650e2911271a9", func := "example.com/kindred-ledger/kindred-ledger/pkg/register.LawS6091BWhole", spec := "lawS6091BWhole", named := ["example.com/kindred-ledger/kindred-ledger/pkg/register.prefixes"], apart := false, laid := [("example.com/kindred-ledger/kindred-ledger/pkg/register.prefixes", laid_example_com_kindred_ledger_kindred_ledger_pkg_register_prefixes)] }
def LawS6091BWholeSaid : Prop := lawS6091BWholeRow.holds Ybad.pinned (OpenSpec.ofChange lawS6091BWholeSpec)

/-- ITS FALSE NEIGHBOUR: 'it returns false'. Refute it at one input. -/
def lawS6091BWholeWrong : ChangeSpec := { name := "lawS6091BWhole", vars := ["example.com/kindred-ledger/kindred-ledger/pkg/register.prefixes"], fn := fun _ => fun
  | [d1, d2, d3, g1] => { results := [.lit (.bool false)], args := [d1, d2, d3], vars := [g1] }
  | _ => none }
def LawS6091BWholeWrongFalsely : Prop := lawS6091BWholeRow.holds Ybad.pinned (OpenSpec.ofChange lawS6091BWholeWrong)

end Rows
end Go.Proofs.YbulkdvcuDoor

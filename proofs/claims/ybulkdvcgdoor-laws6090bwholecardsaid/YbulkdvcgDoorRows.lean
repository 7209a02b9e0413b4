/-
  NARROWER THAN 'FOR EVERY INPUT', by the rows' own cells (each row's printed sentence says how): LawS6090BWhole: laid.
  DERIVED. THE GIVEN ROWS OF THIS SEAT. 1 by the template 'for every input the law returns true; each argument reads behind the call as it read before'; 0 by the template 'total and deterministic' (their statements: YbulkdvcgDoorTotals.lean).
  GIVEN WITH THE SEED: the statements are not yours to turn. If you find one false, say at which input.
  Laid BY PROGRAM, IN A SANDBOX (cutbox-rows.mjs): the forced cells as the released guide's own fill.sh prints them over the translation 6bfaff1b085e8376… (all of the seat's roots in one cut). By AI agents, Wed Nov 11 2026. No macro, syntax, notation, axiom, sorry.
-/
import Derived.Test.YbulkdvcgDoorChecked
import GoSem.Claim
import GoSem.ClaimJoined
import GoSem.ClaimMapViews
import Derived.JoinedTies
import Derived.KernelRfl
namespace Go.Proofs.YbulkdvcgDoor
/- THE CELL 'sum', in the pinned program and in every row, IS THE sha256 OF THE DUMP (.gsa) THAT YbulkdvcgDoorProg.lean LOADS. Nothing in Lean hashes anything: it is a label: what it is worth is what the hold of that sum in a sandbox is worth. -/
noncomputable def Ybad.pinned : Pinned := { name := "ybulkdvcgdoor", sum := "6bfaff1b085e83767d2b22541f57f3e19e28dfc333c4c3c39a380cfb730d2f7d", checked := Ybad.checked }
namespace Rows
def none {H : Type} : Left H := { results := [], args := [] }

/- WHAT THE LISTED PACKAGE-LEVEL VARIABLES READ AS WHEN THE CALL BEGINS. Each datum BY PROGRAM (the guide's laid-datum.mjs) off the statement by which the dump's own 'gosem.cut.vars' lays the variable. In a bare row this is a premise. The card (YbulkdvcgDoorCards.lean) ties it to the program's text. -/
def laid_example_com_arcorder_arcorder_kinds {H : Type} : DataW H := .agg [.agg [.lit (.int .u8 0), .lit (.string []), .lit (.int .u8 0), .lit (.bool false)], .agg [.lit (.int .u8 114), .lit (.string [114, 101, 97, 100]), .lit (.int .u8 1), .lit (.bool false)], .agg [.lit (.int .u8 119), .lit (.string [119, 114, 105, 116, 101]), .lit (.int .u8 1), .lit (.bool true)], .agg [.lit (.int .u8 99), .lit (.string [99, 111, 109, 109, 105, 116]), .lit (.int .u8 0), .lit (.bool false)], .agg [.lit (.int .u8 97), .lit (.string [97, 98, 111, 114, 116]), .lit (.int .u8 0), .lit (.bool false)], .agg [.lit (.int .u8 105), .lit (.string [105, 110, 115, 101, 114, 116]), .lit (.int .u8 2), .lit (.bool true)], .agg [.lit (.int .u8 100), .lit (.string [100, 101, 108, 101, 116, 101]), .lit (.int .u8 2), .lit (.bool true)], .agg [.lit (.int .u8 114), .lit (.string [112, 114, 101, 100, 105, 99, 97, 116, 101, 32, 114, 101, 97, 100]), .lit (.int .u8 3), .lit (.bool false)], .agg [.lit (.int .u8 119), .lit (.string [112, 114, 101, 100, 105, 99, 97, 116, 101, 32, 119, 114, 105, 116, 101]), .lit (.int .u8 3), .lit (.bool true)]]

/-- 'arcorder.LawS6090BWhole': WHATEVER THE INPUT: true; the input reads as it did. -/
def lawS6090BWholeSpec : ChangeSpec := { name := "lawS6090BWhole", vars := ["example.com/arcorder/arcorder.kinds"], fn := fun _ => fun
  | [d1, d2, g1] => { results := [.lit (.bool true)], args := [d1, d2], vars := [g1] }
  | _ => none }
def lawS6090BWholeRow : OpenClaim := { program := "ybulkdvcgdoor", sum := "6bfaff1b085e83767d2b22541f57f3e19e28dfc333c4c3c39a380cfb730d2f7d", func := "example.com/arcorder/arcorder.LawS6090BWhole", spec := "lawS6090BWhole", named := ["example.com/arcorder/arcorder.kinds"], apart := false, laid := [("example.com/arcorder/arcorder.kinds", laid_example_com_arcorder_arcorder_kinds)] }
def LawS6090BWholeSaid : Prop := lawS6090BWholeRow.holds Ybad.pinned (OpenSpec.ofChange lawS6090BWholeSpec)

/-- ITS FALSE NEIGHBOUR: 'it returns false'. Refute it at one input. -/
def lawS6090BWholeWrong : ChangeSpec := { name := "lawS6090BWhole", vars := ["example.com/arcorder/arcorder.kinds"], fn := fun _ => fun
  | [d1, d2, g1] => { results := [.lit (.bool false)], args := [d1, d2], vars := [g1] }
  | _ => none }
def LawS6090BWholeWrongFalsely : Prop := lawS6090BWholeRow.holds Ybad.pinned (OpenSpec.ofChange lawS6090BWholeWrong)

end Rows
end Go.Proofs.YbulkdvcgDoor

/-
  No cell of these rows narrows 'for every input' (looked for: loops, veiled, ifaces, maps, wideKeys, modest, calm, conditions, laid).
  DERIVED. THE GIVEN ROWS OF THIS SEAT. 2 by the template 'for every input the law returns true; each argument reads behind the call as it read before'; 0 by the template 'total and deterministic' (their statements: YbulkdvcgTotals.lean).
  GIVEN WITH THE SEED: the statements are not yours to turn. If you find one false, say at which input.
  Laid BY PROGRAM, IN A SANDBOX (cutbox-rows.mjs): the forced cells as the released guide's own fill.sh prints them over the translation cd0ac6810ec8a589… (all of the seat's roots in one cut). By AI agents, Wed Nov 11 2026. No macro, syntax, notation, axiom, sorry.
-/
import Derived.Test.YbulkdvcgChecked
import GoSem.Claim
import GoSem.ClaimJoined
import GoSem.ClaimMapViews
import Derived.JoinedTies
import Derived.KernelRfl
namespace Go.Proofs.Ybulkdvcg
/- THE CELL 'sum', in the pinned program and in every row, IS THE sha256 OF THE DUMP (.gsa) THAT YbulkdvcgProg.lean LOADS. Nothing in Lean hashes anything: it is a label: what it is worth is what the hold of that sum in a sandbox is worth. -/
noncomputable def Yba.pinned : Pinned := { name := "ybulkdvcg", sum := "cd0ac6810ec8a58920d421ed49382793f60dd69827c9caf371234364d75f1192", checked := Yba.checked }
namespace Rows
def none {H : Type} : Left H := { results := [], args := [] }

/-- 'arcorder.LawS6090AWhole': WHATEVER THE INPUT: true; the input reads as it did. -/
def lawS6090AWholeSpec : ChangeSpec := { name := "lawS6090AWhole", fn := fun _ => fun
  | [d1, d2, d3, d4, d5, d6, d7, d8] => { results := [.lit (.bool true)], args := [d1, d2, d3, d4, d5, d6, d7, d8] }
  | _ => none }
def lawS6090AWholeRow : OpenClaim := { program := "ybulkdvcg", sum := "cd0ac6810ec8a58920d421ed49382793f60dd69827c9caf371234364d75f1192", func := "example.com/arcorder/arcorder.LawS6090AWhole", spec := "lawS6090AWhole", unfollowed := true, recurses := true, apart := false }
def LawS6090AWholeSaid : Prop := lawS6090AWholeRow.holds Yba.pinned (OpenSpec.ofChange lawS6090AWholeSpec)

/-- ITS FALSE NEIGHBOUR: 'it returns false'. Refute it at one input. -/
def lawS6090AWholeWrong : ChangeSpec := { name := "lawS6090AWhole", fn := fun _ => fun
  | [d1, d2, d3, d4, d5, d6, d7, d8] => { results := [.lit (.bool false)], args := [d1, d2, d3, d4, d5, d6, d7, d8] }
  | _ => none }
def LawS6090AWholeWrongFalsely : Prop := lawS6090AWholeRow.holds Yba.pinned (OpenSpec.ofChange lawS6090AWholeWrong)

/-- 'arcorder.LawS6090CWhole': WHATEVER THE INPUT: true; the input reads as it did. -/
def lawS6090CWholeSpec : ChangeSpec := { name := "lawS6090CWhole", fn := fun _ => fun
  | [d1, d2, d3, d4, d5, d6, d7] => { results := [.lit (.bool true)], args := [d1, d2, d3, d4, d5, d6, d7] }
  | _ => none }
def lawS6090CWholeRow : OpenClaim := { program := "ybulkdvcg", sum := "cd0ac6810ec8a58920d421ed49382793f60dd69827c9caf371234364d75f1192", func := "example.com/arcorder/arcorder.LawS6090CWhole", spec := "lawS6090CWhole", recurses := true, apart := false }
def LawS6090CWholeSaid : Prop := lawS6090CWholeRow.holds Yba.pinned (OpenSpec.ofChange lawS6090CWholeSpec)

/-- ITS FALSE NEIGHBOUR: 'it returns false'. Refute it at one input. -/
def lawS6090CWholeWrong : ChangeSpec := { name := "lawS6090CWhole", fn := fun _ => fun
  | [d1, d2, d3, d4, d5, d6, d7] => { results := [.lit (.bool false)], args := [d1, d2, d3, d4, d5, d6, d7] }
  | _ => none }
def LawS6090CWholeWrongFalsely : Prop := lawS6090CWholeRow.holds Yba.pinned (OpenSpec.ofChange lawS6090CWholeWrong)

end Rows
end Go.Proofs.Ybulkdvcg

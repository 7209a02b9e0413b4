import Derived.Test.YbulkdvbeLaid
import Derived.Deep.QuietTactic
import Derived.BigQuiet
namespace Go.Proofs.Ybulkdvbe
open Go.RowKit

/-- A world in which all that lay in W lies as it lay. -/
structure Lat (W : World) where
  w : World
  h : Below W.heap.size W w

theorem lat_call {P : Program} {f : FuncId} {args : Array Value} {W : World} {n : Lat W} {v : Value}
    (h : Calls P f args n.w fun e w' => e = .returned v ∧ Below n.w.heap.size n.w w') : Calls P f args n.w fun e w'' => e = .returned v ∧ ∃ m : Lat W, w'' = m.w :=
  h.mono fun _ _ ⟨he, hb⟩ => ⟨he, ⟨_, n.h.trans (hb.mono n.h.size)⟩, rfl⟩

/-- A region that draws its order, whose operations read, and whose callees read and make memory of their own: one walk in the order of the text. -/
theorem wp_region_lat {P : Program} {id : Nat} {Q : Exit → Act → World → Prop} {a : Act} {W : World} {l : List Oper} (hm : P.follows .mixedOrders = true) (hB : Region.lexB .any l.toArray = true)
    (h : wpQuiet P l.toArray (fun w' => ∃ n : Lat W, w' = n.w) (fun a' => ∀ w', (∃ n : Lat W, w' = n.w) → Q .normal a' w') l a) : (Code.region id l.toArray true).wp P Q a W :=
  wp_region_quiet (C := fun w' => ∃ n : Lat W, w' = n.w) hm hB ⟨⟨_, (Below.refl _ _).drew⟩, rfl⟩ (by simpa using h)

/-- A pointer to a message is itself. -/
theorem run_eql38 (W : World) (a : Addr) : (binOp .eql 38 (.pointer (some a)) (.pointer (some a))).run Yba.prog W = .ok (.bool true) W := by
  have h0 : (sizeOf 37).run Yba.prog W = .ok 43 W := by kernel_rfl
  have h3 : ∀ d, (Op.equalIn (d + 1) 38 (.pointer (some a)) (.pointer (some a))).run Yba.prog W = .ok true W := fun d => by
    simp [Op.equalIn, Sem.run_bind, run_underlying Yba.underlying38, h0, sameAddr]
  have h2 : (Op.equal 38 (.pointer (some a)) (.pointer (some a))).run Yba.prog W = .ok true W := h3 9999
  simp only [binOp, Sem.run_bind, h2, Result.andThen_ok, Sem.run_pure]

end Go.Proofs.Ybulkdvbe

/-
  Whole-row operations (a [32]byte, a Message) kept shut: each operation is one name, run by one law.
-/
import Derived.Test.YbulkdvbeRows
import Derived.WalkKit
import Derived.WalkSpells
import Derived.WalkLawsBesides
import Derived.Deep.MidRow
namespace Go.Proofs.Ybulkdvbe
open Go.RowKit

theorem Yba.info25 : (Yba.prog.info? 25).map (·.size) = some 32 := by kernel_rfl
theorem Yba.info37 : (Yba.prog.info? 37).map (·.size) = some 43 := by kernel_rfl

/-- The operation 'load t', shut. -/
def opLoad (t : TypeId) (p : Value) : Sem Next := do pure (.value (← Instr.loadAt t p))
/-- The operation 'store t', shut. -/
def opStore (t : TypeId) (p v : Value) : Sem Next := do Instr.storeAt t p v; pure .skip
/-- The operation 'alloc t', shut. -/
def opAlloc (t : TypeId) : Sem Next := do pure (.value (← Instr.alloc t true (.tuple #[])))

section
variable (ρ : Operand → Value) (dst : Option Tmp) (x y : Operand) (ty : TypeId) (pos : String) (after : Array Edge) (guard : Option (Nat × Bool))
theorem exec_load25 : execOp ρ { dst, op := .load 25 x, type := ty, pos, after, guard } = opLoad 25 (ρ x) := rfl
theorem exec_store25 : execOp ρ { dst, op := .store 25 x y, type := ty, pos, after, guard } = opStore 25 (ρ x) (ρ y) := rfl
theorem exec_store37 : execOp ρ { dst, op := .store 37 x y, type := ty, pos, after, guard } = opStore 37 (ρ x) (ρ y) := rfl
theorem exec_alloc25 : execOp ρ { dst, op := .alloc 25, type := ty, pos, after, guard } = opAlloc 25 := rfl
end

/-- Each is one cell. -/
def Ones (D : Array Value) : Prop := D.all (·.oneCell') = true

/-- Thirty-two zero bytes. -/
def z32 : Array Value := Array.replicate 32 (.int .u8 0)
theorem z32_size : z32.size = 32 := by simp [z32]

theorem run_alloc25 (w : World) : (opAlloc 25).run Yba.prog w = .ok (.value (.pointer (some ⟨w.heap.size, 0, none⟩))) (w.alloc (.cells z32 25)) := by kernel_rfl

theorem run_load25 (w : World) (b o : Nat) (cs : List Value) (hc : w.rangeAt b o cs) (hl : cs.length = 32) :
    (opLoad 25 (.pointer (some ⟨b, o, none⟩))).run Yba.prog w = .ok (.value (.agg cs.toArray)) w := by
  unfold opLoad
  rw [Sem.run_bind, run_loadAt_mid w b o 25 cs _ hc Yba.underlying25 rfl (by rw [hl]; exact Yba.info25)]
  rfl

theorem run_load25_new (w : World) (C : Array Value) (t : TypeId) (n : Nat) (hn : n = w.heap.size) (hl : C.size = 32) :
    (opLoad 25 (.pointer (some ⟨n, 0, none⟩))).run Yba.prog (w.alloc (.cells C t)) = .ok (.value (.agg C)) (w.alloc (.cells C t)) := by
  subst hn
  have h := run_load25 (w.alloc (.cells C t)) w.heap.size 0 C.toList (fun j v hv => by
    rw [Nat.zero_add, World.cell?_alloc_new]; simpa using hv) (by simpa using hl)
  simpa using h

theorem run_store25 (w : World) (b o : Nat) (cells : Array Value) (ht : w.there b o 32) (hl : cells.size = 32) (h1 : Ones cells) :
    (opStore 25 (.pointer (some ⟨b, o, none⟩)) (.agg cells)).run Yba.prog w = .ok .skip (w.setCells b o cells.toList) := by
  unfold opStore
  rw [Sem.run_bind, run_storeAt_mid w b o 25 cells (by rw [hl]; exact ht) (by rw [hl]; exact Yba.info25) h1]
  rfl

theorem run_store37 (w : World) (b o : Nat) (cells : Array Value) (ht : w.there b o 43) (hl : cells.size = 43) (h1 : Ones cells) :
    (opStore 37 (.pointer (some ⟨b, o, none⟩)) (.agg cells)).run Yba.prog w = .ok .skip (w.setCells b o cells.toList) := by
  unfold opStore
  rw [Sem.run_bind, run_storeAt_mid w b o 37 cells (by rw [hl]; exact ht) (by rw [hl]; exact Yba.info37) h1]
  rfl

/-- Every cell of a block that is known whole is written anew: the block holds the new cells. -/
theorem setCells_full (w : World) (C : Array Value) (t : TypeId) : ∀ (vs pre : List Value), pre.length + vs.length = C.size → (∀ i, i < pre.length → C[i]? = pre[i]?) →
    (w.alloc (.cells C t)).setCells w.heap.size pre.length vs = w.alloc (.cells (pre ++ vs).toArray t)
  | [], pre, hl, hp => by
    have : C = pre.toArray := by
      apply Array.ext_getElem?
      intro i
      by_cases hi : i < pre.length
      · rw [hp i hi]; simp
      · rw [Array.getElem?_eq_none (by simp at hl; omega)]; simp; omega
    simp [World.setCells, this]
  | v :: vs, pre, hl, hp => by
    rw [World.setCells, World.setCell_alloc_new]
    have hlt : pre.length < C.size := by simp at hl; omega
    have ih := setCells_full w (C.setIfInBounds pre.length v) t vs (pre ++ [v]) (by simp at hl ⊢; omega) (fun i hi => by
      by_cases e : i = pre.length
      · subst e; simp [hlt]
      · have hi' : i < pre.length := by simp at hi; omega
        rw [Array.getElem?_setIfInBounds_ne (by omega), hp i hi', List.getElem?_append_left hi'])
    simpa using ih

theorem World.alloc_setCells_old (w : World) (X : Obj) (b : Nat) (hb : b < w.heap.size) : ∀ (vs : List Value) (o : Nat), (w.alloc X).setCells b o vs = (w.setCells b o vs).alloc X
  | [], _ => rfl
  | v :: vs, o => by
    rw [World.setCells, World.setCells]
    have : (w.alloc X).setCell ⟨b, o, none⟩ v = (w.setCell ⟨b, o, none⟩ v).alloc X := by
      unfold World.setCell World.alloc
      congr 1
      apply Array.ext_getElem?
      intro k
      rw [Array.getElem?_modify, Array.getElem?_push, Array.getElem?_push]
      simp only [Array.size_modify, Array.getElem?_modify]
      by_cases hk : b = k
      · subst hk
        have : b ≠ w.heap.size := by omega
        simp [this]
      · simp [hk]
    rw [this]
    exact World.alloc_setCells_old (w.setCell ⟨b, o, none⟩ v) X b (by simpa [World.setCell] using hb) vs (o + 1)

theorem there_block (w : World) (b n : Nat) (C : Array Value) (t : TypeId) (hb : w.heap[b]? = some (.cells C t (0, 0))) (hn : n ≤ C.size) : w.there b 0 n := fun j hj => by
  refine ⟨?_, ?_⟩
  · rw [cell_of_row w b (0 + j) C t _ hb]
    have : j < C.size := by omega
    simp [this]
  · simp [World.frozen?, hb]

/-- The store into the block ahead of the last. -/
theorem run_store25_prev (w : World) (C D : Array Value) (t : TypeId) (X : Obj) (n : Nat) (hn : n = w.heap.size) (hC : C.size = 32) (hD : D.size = 32) (h1 : Ones D) :
    (opStore 25 (.pointer (some ⟨n, 0, none⟩)) (.agg D)).run Yba.prog ((w.alloc (.cells C t)).alloc X) = .ok .skip ((w.alloc (.cells D t)).alloc X) := by
  subst hn
  rw [run_store25 _ _ _ _ (there_block _ _ 32 C t (by
    show ((w.heap.push _).push _)[w.heap.size]? = _
    rw [Array.getElem?_push, if_neg (by simp), Array.getElem?_push, if_pos rfl]) (by omega)) hD h1]
  rw [World.alloc_setCells_old _ _ _ (by simp)]
  have := setCells_full w C t D.toList [] (by simp; omega) (fun i hi => by simp at hi)
  simp only [List.length_nil, List.nil_append] at this
  rw [this]

end Go.Proofs.Ybulkdvbe

/-
  The law: what stands in memory.
-/
import Derived.Test.YbulkdvbsGreatPln
import Derived.Test.YbulkdvbsGreatBld
import Derived.Test.YbulkdvbsGreatWriters
namespace Go.Proofs.YbulkdvbsGreat
open Go.RowKit

theorem idx7 (j : Nat) : j / 7 * 7 + j % 7 = j := by omega
/-- 'copy(dst, src)' of n operations. -/
theorem run_copy7 (w : World) (CB OB n dc sc : Nat) (f g : Nat → Nat → Value) (h1 : ∀ i c, (f i c).oneCell' = true) (hs : RowK w OB n 7 f) (hd : RowK w CB n 7 g) :
    ∃ w', (∀ ty, (Builtin.copy_ #[23, 23] ty #[.slice (some ⟨CB, 0, none⟩) n dc, .slice (some ⟨OB, 0, none⟩) n sc]).run Ybaz.prog w = .ok (goInt n) w') ∧ RowK w' CB n 7 f ∧ Keep (fun b => b = CB) w w' := by
  have hlen : ((List.range (n * 7)).map fun j => f (j / 7) (j % 7)).length = n * 7 := by simp
  have hcell : ∀ j, j < n * 7 → (w.cell? ⟨CB, 0 + j, none⟩).isSome = true := fun j hj => by
    have := hd.cell (j / 7) (j % 7) (by omega) (by omega)
    rw [idx7] at this
    rw [Nat.zero_add, this]; rfl
  refine ⟨w.setCells CB 0 ((List.range (n * 7)).map fun j => f (j / 7) (j % 7)), fun ty => ?_, ⟨fun i c hi hc => ?_, fun i => by rw [World.frozen?_setCells]; exact hd.free i⟩, Keep.setCells CB _ 0 w⟩
  · have hl := run_loadCells_list (P := Ybaz.prog) w ⟨OB, 0, none⟩ ((List.range (n * 7)).map fun j => f (j / 7) (j % 7)) (fun j v hv => by
      have hj : j < n * 7 := by have := (List.getElem?_eq_some_iff.1 hv).1; simpa using this
      have := hs.cell (j / 7) (j % 7) (by omega) (by omega)
      rw [idx7] at this
      rw [add_none, Nat.zero_add, this]
      simpa [hj] using hv)
    have hst := run_storeCells_cells (P := Ybaz.prog) CB 0 ((List.range (n * 7)).map fun j => f (j / 7) (j % 7)) 0 w (fun j hj => by rw [hlen] at hj; simpa using hcell j hj) (fun j _ => hd.free _) (fun v hv => by
      obtain ⟨j, _, rfl⟩ := List.mem_map.1 hv
      exact h1 _ _)
    obtain ⟨i, hq, _, hi, _⟩ := inf34
    rw [hlen] at hl
    simp [Builtin.copy_, run_underlying Ybaz.underlying23, Builtin.lenOf, Builtin.firstCells, sizeOf, typeInfo, hq, hi, hl, hst]
  · have := World.cell?_setCells_in CB ((List.range (n * 7)).map fun j => f (j / 7) (j % 7)) 0 w (fun j hj => by rw [hlen] at hj; exact hcell j hj) (i * 7 + c) (by rw [hlen]; omega)
    rw [Nat.zero_add] at this
    rw [this]
    have e1 : (i * 7 + c) / 7 = i := by omega
    have e2 : (i * 7 + c) % 7 = c := by omega
    simp [e1, e2]
/-- 'make([]Op, n)'. -/
theorem made7 (w : World) (n : Nat) : ∃ f, RowK (w.alloc (.cells (mc (.agg #[.int .u8 0, .int .u64 0, .string ⟨#[]⟩, .string ⟨#[]⟩, .bool false, .int .u64 0, .slice none 0 0]) 7 n) 34)) w.heap.size n 7 f := by
  refine ⟨fun i c => (Value.agg #[.int .u8 0, .int .u64 0, .string ⟨#[]⟩, .string ⟨#[]⟩, .bool false, .int .u64 0, .slice none 0 0]).cells[(i * 7 + c) % 7]!, fun i c hi hc => ?_, fun i => free_of _ _ i _ _ (heap_alloc_new _ _)⟩
  rw [cell_of _ _ _ _ _ (heap_alloc_new _ _)]
  exact mc_at _ _ _ _ rfl (by omega)
/-- What the law hears of History: the Result's cells. -/
def HistOutL (kd tx ky : Nat → Nat) (M : Nat) (w w' : World) (RB : Nat) : Prop := Keep (fun _ => False) w w' ∧ w.heap.size ≤ RB ∧ ∃ (Se Rg cs : Bool) (o y a : Value), w'.heap[RB]? = some (.cells #[.int .i64 (cnt5 fun s => (endF kd tx M s).isSome : Nat), .int .i64 (cnt5 fun s => endF kd tx M s == some 99 : Nat), .int .i64 (cnt5 fun s => endF kd tx M s == some 97 : Nat), .int .i64 (cnt5 fun s => endF kd tx M s == some 0 : Nat), .bool Se, .bool false, .bool Rg, .bool cs, .bool false, .pointer none, .pointer none, o, y, a] 41) ∧
  (Se = true ↔ Ser tx (fun t => endF kd tx M t = some 99) M) ∧ (Rg = true ↔ ∀ j, j < M → ¬ Fault kd tx ky j)
def RetHistL (kd tx ky : Nat → Nat) (M : Nat) (w w' : World) (e : Ending) : Prop := ∃ RB, e = .returned (.pointer (some ⟨RB, 0, none⟩)) ∧ HistOutL kd tx ky M w w' RB
/-- What stands behind History: the operations, their copy, the Result, the law's three arrays. -/
structure LS1 (w : World) (OB CB RB SB KB AB M : Nat) (kd tx ky : Nat → Nat) (rc : Array Value) (se : Nat → Bool) (ek : Nat → Nat) (ea : Nat → Int) (wr : World) : Prop where
  k : Keep (fun _ => False) w wr
  op : OP wr OB M kd tx ky
  cp : RowK wr CB M 7 (opc kd tx ky)
  cl : CB < wr.heap.size
  res : wr.heap[RB]? = some (.cells rc 41)
  rs : Row wr SB 5 (fun t => .bool (se t))
  rk : Row wr KB 5 (fun t => .int .u8 (ek t : Int))
  ra : Row wr AB 5 (fun t => .int .i64 (ea t))
  lt : AB < wr.heap.size
  nw : w.heap.size ≤ SB
  ne : OB < SB ∧ CB < SB ∧ RB < SB ∧ SB < KB ∧ KB < AB
section
variable {w wr w' : World} {OB CB RB SB KB AB M : Nat} {kd tx ky : Nat → Nat} {rc : Array Value} {se : Nat → Bool} {ek : Nat → Nat} {ea : Nat → Int}
theorem LS1.quiet (h : LS1 w OB CB RB SB KB AB M kd tx ky rc se ek ea wr) (k : Keep (fun _ => False) wr w') : LS1 w OB CB RB SB KB AB M kd tx ky rc se ek ea w' := by
  have l := h.lt
  have n := h.ne
  exact ⟨h.k.trans k (fun _ q => q.elim), h.op.keep k id, h.cp.keep (k.block CB h.cl id), Nat.lt_of_lt_of_le h.cl k.size, k.at h.res id, h.rs.keep (k.block SB (by omega) id), h.rk.keep (k.block KB (by omega) id), h.ra.keep (k.block AB l id), Nat.lt_of_lt_of_le l k.size, h.nw, n⟩
theorem row5 {w : World} {b : Nat} {t : TypeId} (z : Value) (h : w.heap[b]? = some (.cells #[z, z, z, z, z] t)) : Row w b 5 (fun _ => z) :=
  ⟨fun i hi => by
    rw [cell_of _ _ _ _ _ h]
    have : i = 0 ∨ i = 1 ∨ i = 2 ∨ i = 3 ∨ i = 4 := by omega
    rcases this with rfl | rfl | rfl | rfl | rfl <;> rfl, fun i => free_of _ _ i _ _ h⟩
theorem LS1.start {w w4 : World} {OB CB RB M : Nat} {kd tx ky : Nat → Nat} {rc : Array Value} (k : Keep (fun _ => False) w w4) (op : OP w4 OB M kd tx ky) (cp : RowK w4 CB M 7 (opc kd tx ky)) (cl : CB < w4.heap.size) (res : w4.heap[RB]? = some (.cells rc 41)) :
    LS1 w OB CB RB w4.heap.size (w4.heap.size + 1) (w4.heap.size + 1 + 1) M kd tx ky rc (fun _ => false) (fun _ => 0) (fun _ => 0) (((w4.alloc (.cells #[.bool false, .bool false, .bool false, .bool false, .bool false] 27)).alloc (.cells #[.int .u8 0, .int .u8 0, .int .u8 0, .int .u8 0, .int .u8 0] 29)).alloc (.cells #[.int .i64 0, .int .i64 0, .int .i64 0, .int .i64 0, .int .i64 0] 30)) := by
  have hl := op.lt
  have hr := heap_lt res
  have hk := k.size
  have k1 := Keep.alloc (fun _ => False) w4 (.cells #[.bool false, .bool false, .bool false, .bool false, .bool false] 27)
  have e1 := heap_alloc_new w4 (.cells #[.bool false, .bool false, .bool false, .bool false, .bool false] 27)
  have z1 : (w4.alloc (.cells #[.bool false, .bool false, .bool false, .bool false, .bool false] 27)).heap.size = w4.heap.size + 1 := World.size_alloc _ _
  generalize w4.alloc (.cells #[.bool false, .bool false, .bool false, .bool false, .bool false] 27) = v1 at *
  have k2 := Keep.alloc (fun _ => False) v1 (.cells #[.int .u8 0, .int .u8 0, .int .u8 0, .int .u8 0, .int .u8 0] 29)
  have e2 := heap_alloc_new v1 (.cells #[.int .u8 0, .int .u8 0, .int .u8 0, .int .u8 0, .int .u8 0] 29)
  have z2 : (v1.alloc (.cells #[.int .u8 0, .int .u8 0, .int .u8 0, .int .u8 0, .int .u8 0] 29)).heap.size = v1.heap.size + 1 := World.size_alloc _ _
  generalize v1.alloc (.cells #[.int .u8 0, .int .u8 0, .int .u8 0, .int .u8 0, .int .u8 0] 29) = v2 at *
  have k3 := Keep.alloc (fun _ => False) v2 (.cells #[.int .i64 0, .int .i64 0, .int .i64 0, .int .i64 0, .int .i64 0] 30)
  have e3 := heap_alloc_new v2 (.cells #[.int .i64 0, .int .i64 0, .int .i64 0, .int .i64 0, .int .i64 0] 30)
  have z3 : (v2.alloc (.cells #[.int .i64 0, .int .i64 0, .int .i64 0, .int .i64 0, .int .i64 0] 30)).heap.size = v2.heap.size + 1 := World.size_alloc _ _
  generalize v2.alloc (.cells #[.int .i64 0, .int .i64 0, .int .i64 0, .int .i64 0, .int .i64 0] 30) = v3 at *
  rw [z1] at e2
  rw [z2, z1] at e3
  have kk := (k1.trans k2 (fun _ q => q.elim)).trans k3 (fun _ q => q.elim)
  exact ⟨k.trans kk (fun _ q => q.elim), op.keep kk id, cp.keep (kk.block CB cl id), by omega, kk.at res id, row5 _ (k3.at (k2.at e1 id) id), row5 _ (k3.at e2 id), row5 _ e3, by omega, hk, by omega, by omega, by omega, by omega, by omega⟩
/-- Only the five places count. -/
theorem LS1.congrA {ea' : Nat → Int} (h : LS1 w OB CB RB SB KB AB M kd tx ky rc se ek ea wr) (e : ∀ t, t < 5 → ea t = ea' t) : LS1 w OB CB RB SB KB AB M kd tx ky rc se ek ea' wr :=
  ⟨h.k, h.op, h.cp, h.cl, h.res, h.rs, h.rk, h.ra.congr (fun i hi => by rw [e i hi]), h.lt, h.nw, h.ne⟩
theorem LS1.setS (h : LS1 w OB CB RB SB KB AB M kd tx ky rc se ek ea wr) (t : Nat) (ht : t < 5) : LS1 w OB CB RB SB KB AB M kd tx ky rc (put1 se t true) ek ea (wr.setCell ⟨SB, t, none⟩ (.bool true)) := by
  have l := h.lt
  have n := h.ne
  have nw := h.nw
  have k := Keep.setCell wr ⟨SB, t, none⟩ (.bool true)
  exact ⟨h.k.trans k (fun b q => .inr (by have : b = SB := q; omega)), h.op.keep k (by show ¬ OB = SB; omega), h.cp.keep (k.block CB h.cl (by show ¬ CB = SB; omega)), Nat.lt_of_lt_of_le h.cl k.size, k.at h.res (by show ¬ RB = SB; omega), (h.rs.set t (.bool true) ht).congr (fun i _ => by rw [put1_if]; split <;> rfl), h.rk.keep (k.block KB (by omega) (by show ¬ KB = SB; omega)), h.ra.keep (k.block AB l (by show ¬ AB = SB; omega)), Nat.lt_of_lt_of_le l k.size, nw, n⟩
theorem LS1.setK (h : LS1 w OB CB RB SB KB AB M kd tx ky rc se ek ea wr) (t : Nat) (ht : t < 5) (x : Nat) : LS1 w OB CB RB SB KB AB M kd tx ky rc se (put1 ek t x) ea (wr.setCell ⟨KB, t, none⟩ (.int .u8 (x : Int))) := by
  have l := h.lt
  have n := h.ne
  have nw := h.nw
  have k := Keep.setCell wr ⟨KB, t, none⟩ (.int .u8 (x : Int))
  exact ⟨h.k.trans k (fun b q => .inr (by have : b = KB := q; omega)), h.op.keep k (by show ¬ OB = KB; omega), h.cp.keep (k.block CB h.cl (by show ¬ CB = KB; omega)), Nat.lt_of_lt_of_le h.cl k.size, k.at h.res (by show ¬ RB = KB; omega), h.rs.keep (k.block SB (by omega) (by show ¬ SB = KB; omega)), (h.rk.set t (.int .u8 (x : Int)) ht).congr (fun i _ => by rw [put1_if]; split <;> rfl), h.ra.keep (k.block AB l (by show ¬ AB = KB; omega)), Nat.lt_of_lt_of_le l k.size, nw, n⟩
theorem LS1.setA (h : LS1 w OB CB RB SB KB AB M kd tx ky rc se ek ea wr) (t : Nat) (ht : t < 5) (x : Int) : LS1 w OB CB RB SB KB AB M kd tx ky rc se ek (put1 ea t x) (wr.setCell ⟨AB, t, none⟩ (.int .i64 x)) := by
  have l := h.lt
  have n := h.ne
  have nw := h.nw
  have k := Keep.setCell wr ⟨AB, t, none⟩ (.int .i64 x)
  exact ⟨h.k.trans k (fun b q => .inr (by have : b = AB := q; omega)), h.op.keep k (by show ¬ OB = AB; omega), h.cp.keep (k.block CB h.cl (by show ¬ CB = AB; omega)), Nat.lt_of_lt_of_le h.cl k.size, k.at h.res (by show ¬ RB = AB; omega), h.rs.keep (k.block SB (by omega) (by show ¬ SB = AB; omega)), h.rk.keep (k.block KB (by omega) (by show ¬ KB = AB; omega)), (h.ra.set t (.int .i64 x) ht).congr (fun i _ => by rw [put1_if]; split <;> rfl), Nat.lt_of_lt_of_le l k.size, nw, n⟩
theorem LS1.cells (h : LS1 w OB CB RB SB KB AB M kd tx ky rc se ek ea wr) (i : Nat) (hi : i < M) : wr.cell? ⟨CB, i * 7, none⟩ = some (.int .u8 (kd i : Int)) ∧ wr.cell? ⟨CB, i * 7 + 1, none⟩ = some (.int .u64 (tx i : Int)) ∧ wr.cell? ⟨CB, i * 7 + 2, none⟩ = some (.string (kstr (ky i))) ∧ wr.cell? ⟨CB, i * 7 + 3, none⟩ = some (.string ⟨#[]⟩) ∧ wr.cell? ⟨CB, i * 7 + 4, none⟩ = some (.bool false) ∧ wr.cell? ⟨CB, i * 7 + 5, none⟩ = some (.int .u64 0) ∧ wr.cell? ⟨CB, i * 7 + 6, none⟩ = some (.slice none 0 0) :=
  ⟨h.cp.cell i 0 hi (by omega), h.cp.cell i 1 hi (by omega), h.cp.cell i 2 hi (by omega), h.cp.cell i 3 hi (by omega), h.cp.cell i 4 hi (by omega), h.cp.cell i 5 hi (by omega), h.cp.cell i 6 hi (by omega)⟩
end
end Go.Proofs.YbulkdvbsGreat

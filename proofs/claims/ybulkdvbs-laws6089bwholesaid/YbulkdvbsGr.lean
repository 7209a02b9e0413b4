/-
  The graph in memory: one block of nine cells, four rows of its own. What a step leaves alone.
-/
import Derived.Test.YbulkdvbsRows
import Derived.WalkKit
import Derived.WalkSpells
import Derived.WalkLawsBesides
import Derived.Deep.AppendLies
namespace Go.Proofs.Ybulkdvbs
open Go.RowKit

theorem inf_of {t : TypeId} {z : Value} {b : Nat} (h : (Yba.prog.info? t).map (fun i => (i.zero, i.size, i.bytes)) = some (some z, 1, b)) :
    ∃ i, Yba.prog.info? t = some i ∧ i.zero = some z ∧ i.size = 1 ∧ i.bytes = b := by
  cases hi : Yba.prog.info? t with
  | none => rw [hi] at h; simp at h
  | some i => rw [hi] at h; simp at h; exact ⟨i, rfl, h.1, h.2.1, h.2.2⟩
theorem inf21 : ∃ i, Yba.prog.info? 21 = some i ∧ i.zero = some (.int .i32 0) ∧ i.size = 1 ∧ i.bytes = 4 := inf_of (by kernel_rfl)
theorem inf41 : ∃ i, Yba.prog.info? 41 = some i ∧ i.zero = some (.int .u8 0) ∧ i.size = 1 ∧ i.bytes = 1 := inf_of (by kernel_rfl)
theorem inf42 : ∃ i, Yba.prog.info? 42 = some i ∧ i.zero = some (.int .u64 0) ∧ i.size = 1 ∧ i.bytes = 8 := inf_of (by kernel_rfl)
theorem inf3 : ∃ i, Yba.prog.info? 3 = some i ∧ i.zero = some (.int .i64 0) ∧ i.size = 1 ∧ i.bytes = 8 := inf_of (by kernel_rfl)

/-- A piece of code in a world that is given a name. -/
theorem wp_name {P : Program} {c : Code} {Q : Exit → Act → World → Prop} {a : Act} {w : World} (h : ∀ w1, w1 = w → Code.wp P c Q a w1) : Code.wp P c Q a w := h w rfl
theorem wpList_name {P : Program} {ops : Array Oper} {Q : Exit → Act → World → Prop} {l : List Oper} {a : Act} {w : World} (h : ∀ w1, w1 = w → wpList P ops Q l a w1) : wpList P ops Q l a w := h w rfl

/-- From w to w' only blocks of F have turned, and new ones; what is in F' is of F or new. -/
structure Step (F F' : Nat → Prop) (w w' : World) : Prop where
  os : w'.os = w.os
  tape : w'.tape = w.tape
  output : w'.output = w.output
  size : w.heap.size ≤ w'.heap.size
  block : ∀ k, k < w.heap.size → ¬ F k → w'.heap[k]? = w.heap[k]?
  fresh : ∀ k, F' k → F k ∨ w.heap.size ≤ k

theorem Step.refl (F : Nat → Prop) (w : World) : Step F F w w := ⟨rfl, rfl, rfl, Nat.le_refl _, fun _ _ _ => rfl, fun _ h => .inl h⟩
theorem Step.trans {F F' F'' : Nat → Prop} {a b c : World} (h : Step F F' a b) (k : Step F' F'' b c) : Step F F'' a c :=
  ⟨k.os.trans h.os, k.tape.trans h.tape, k.output.trans h.output, Nat.le_trans h.size k.size,
   fun i hi hF => (k.block i (Nat.lt_of_lt_of_le hi h.size) (fun hF' => by rcases h.fresh i hF' with h1 | h1; exact hF h1; omega)).trans (h.block i hi hF),
   fun i hi => by
     rcases k.fresh i hi with h1 | h1
     · exact h.fresh i h1
     · exact .inr (Nat.le_trans h.size h1)⟩
theorem Step.drew {F F' : Nat → Prop} {a w : World} (h : Step F F' a w) : Step F F' a w.drew := ⟨h.os, h.tape, h.output, h.size, h.block, h.fresh⟩
theorem Step.alloc {F F' : Nat → Prop} {a w : World} (h : Step F F' a w) (o : Obj) : Step F F' a (w.alloc o) :=
  ⟨h.os, h.tape, h.output, Nat.le_trans h.size (by simp), fun k hk hF => by rw [Below.heap_alloc _ _ _ (by have := h.size; omega)]; exact h.block k hk hF, h.fresh⟩
theorem Step.setCell {F F' : Nat → Prop} {a w : World} (h : Step F F' a w) (p : Addr) (u : Value) (hp : F' p.block) : Step F F' a (w.setCell p u) :=
  h.trans ⟨rfl, rfl, rfl, by simp [World.setCell], fun k _ hF => Below.heap_setCell _ _ _ _ (fun e => hF (e ▸ hp)), fun _ h => .inl h⟩
theorem Step.grown {F F' : Nat → Prop} {a w w' : World} {row : Option Nat} (h : Step F F' a w) (hg : w.grownBy w' row) (hr : ∀ k, row = some k → F' k) : Step F F' a w' :=
  h.trans ⟨hg.os, hg.tape, hg.output, hg.size, fun k hk hF => hg.block k hk (fun e => hF (hr k e.symm)), fun _ h => .inl h⟩
theorem Step.to {F F' G' : Nat → Prop} {a w : World} (h : Step F F' a w) (hG : ∀ k, G' k → F' k ∨ a.heap.size ≤ k) : Step F G' a w :=
  ⟨h.os, h.tape, h.output, h.size, h.block, fun k hk => by rcases hG k hk with h1 | h1; exact h.fresh k h1; exact .inr h1⟩
theorem Step.below {F F' : Nat → Prop} {a w : World} {B : Nat} (h : Step F F' a w) (hF : ∀ k, F k → B ≤ k) (hB : B ≤ a.heap.size) : Below B a w :=
  ⟨h.os, h.tape, h.output, h.size, fun k hk => h.block k (by omega) (fun hk' => by have := hF k hk'; omega)⟩

/-- A row that no step touches is as it was. -/
theorem row_keep {w w' : World} {base : Nat} {e : TypeId} {v : Value} {n : Nat} {xs : List Value} (h : w.ownsRow base e 1 v n xs) (hk : ∀ k, v.ownBlock = some k → w'.heap[k]? = w.heap[k]?) : w'.ownsRow base e 1 v n xs := by
  obtain ⟨h1, h2⟩ := h
  refine ⟨h1, ?_⟩
  rcases h2 with h2 | ⟨g, cap, cur, hv, hg, hh, r⟩
  · exact .inl h2
  · exact .inr ⟨g, cap, cur, hv, hg, by rw [hk g (by rw [hv]; rfl)]; exact hh, r⟩

/-- The five cells of a graph that the roads turn, and the four that stay nil. -/
def grA (N : Int) (vl va vk vg : Value) : Array Value := #[.int .i64 N, vl, va, vk, vg, .slice none 0 0, .slice none 0 0, .slice none 0 0, .slice none 0 0]
/-- The blocks of a graph. -/
def foot (G : Nat) (vl va vk vg : Value) (k : Nat) : Prop := k = G ∨ vl.ownBlock = some k ∨ va.ownBlock = some k ∨ vk.ownBlock = some k ∨ vg.ownBlock = some k

/-- The two values lie in different blocks. -/
def Apart (u v : Value) : Prop := ∀ k, u.ownBlock = some k → v.ownBlock = some k → False
/-- The value does not lie in block G. -/
def Off (G : Nat) (u : Value) : Prop := u.ownBlock ≠ some G

structure Gr (w : World) (base G : Nat) (N : Int) (L A : List Int) (K : Nat) (T : List Int) (vl va vk vg : Value) : Prop where
  blk : w.heap[G]? = some (.cells (grA N vl va vk vg) 40 (0, 0))
  low : base ≤ G
  rl : w.ownsRow base 21 1 vl L.length (L.map (Value.int .i32))
  ra : w.ownsRow base 21 1 va A.length (A.map (Value.int .i32))
  rk : w.ownsRow base 41 1 vk K (List.replicate K (Value.int .u8 0))
  rg : w.ownsRow base 42 1 vg T.length (T.map (Value.int .u64))
  ol : Off G vl
  oa : Off G va
  ok : Off G vk
  og : Off G vg
  la : Apart vl va
  lk : Apart vl vk
  lg : Apart vl vg
  ak : Apart va vk
  ag : Apart va vg
  kg : Apart vk vg

section
variable {w w' : World} {base G : Nat} {N : Int} {L A : List Int} {K : Nat} {T : List Int} {vl va vk vg : Value}
theorem Gr.cell (h : Gr w base G N L A K T vl va vk vg) (i : Nat) (v : Value) (hv : (grA N vl va vk vg)[i]? = some v) : w.cell? ⟨G, i, none⟩ = some v := by
  rw [cell_of_row w G i _ _ _ h.blk]; exact hv
theorem Gr.c0 (h : Gr w base G N L A K T vl va vk vg) : w.cell? ⟨G, 0, none⟩ = some (.int .i64 N) := h.cell 0 _ rfl
theorem Gr.c1 (h : Gr w base G N L A K T vl va vk vg) : w.cell? ⟨G, 1, none⟩ = some vl := h.cell 1 _ rfl
theorem Gr.c2 (h : Gr w base G N L A K T vl va vk vg) : w.cell? ⟨G, 2, none⟩ = some va := h.cell 2 _ rfl
theorem Gr.c3 (h : Gr w base G N L A K T vl va vk vg) : w.cell? ⟨G, 3, none⟩ = some vk := h.cell 3 _ rfl
theorem Gr.c4 (h : Gr w base G N L A K T vl va vk vg) : w.cell? ⟨G, 4, none⟩ = some vg := h.cell 4 _ rfl
theorem Gr.f (h : Gr w base G N L A K T vl va vk vg) (i : Nat) : w.frozen? ⟨G, i, none⟩ = false := by simp [World.frozen?, h.blk]
theorem Gr.lt (h : Gr w base G N L A K T vl va vk vg) : G < w.heap.size := World.block_lt_of_cell? w _ h.c0
theorem Gr.foot_lt (h : Gr w base G N L A K T vl va vk vg) (k : Nat) (hk : foot G vl va vk vg k) : base ≤ k ∧ k < w.heap.size := by
  rcases hk with rfl | hk | hk | hk | hk
  · exact ⟨h.low, h.lt⟩
  · exact h.rl.lt k hk
  · exact h.ra.lt k hk
  · exact h.rk.lt k hk
  · exact h.rg.lt k hk
/-- All of it stands where its blocks stand. -/
theorem Gr.keep (h : Gr w base G N L A K T vl va vk vg) (hk : ∀ k, foot G vl va vk vg k → w'.heap[k]? = w.heap[k]?) : Gr w' base G N L A K T vl va vk vg :=
  ⟨by rw [hk G (.inl rfl)]; exact h.blk, h.low, row_keep h.rl fun k e => hk k (.inr (.inl e)), row_keep h.ra fun k e => hk k (.inr (.inr (.inl e))), row_keep h.rk fun k e => hk k (.inr (.inr (.inr (.inl e)))), row_keep h.rg fun k e => hk k (.inr (.inr (.inr (.inr e)))),
   h.ol, h.oa, h.ok, h.og, h.la, h.lk, h.lg, h.ak, h.ag, h.kg⟩
theorem Gr.drew (h : Gr w base G N L A K T vl va vk vg) : Gr w.drew base G N L A K T vl va vk vg := h.keep fun _ _ => rfl
theorem Gr.alloc (h : Gr w base G N L A K T vl va vk vg) (o : Obj) : Gr (w.alloc o) base G N L A K T vl va vk vg := h.keep fun k hk => Below.heap_alloc _ _ _ (h.foot_lt k hk).2
end

end Go.Proofs.Ybulkdvbs

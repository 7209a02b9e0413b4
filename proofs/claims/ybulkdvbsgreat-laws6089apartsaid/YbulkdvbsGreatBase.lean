/-
  Ground for the walks: what a step keeps; blocks of cells.
-/
import Derived.Test.YbulkdvbsGreatRows
import Derived.WalkKit
import Derived.WalkSpells
import Derived.WalkLawsBesides
import Derived.Laws.MakeOwn
import Derived.Deep.QuietTactic
import Derived.BigQuiet
import Derived.Deep.RegionHeld3
import Derived.RegionTactic
import Derived.BigRegion
import Derived.Deep.CutBlock
import Derived.Laws.EntriesVeiled
import Derived.Laws.Cover3
import Derived.Lib.SliceRun
import Derived.Lib.Builder
namespace Go.Proofs.YbulkdvbsGreat
open Go.RowKit

/-- From w to w' only blocks of F have turned, and new ones. -/
structure Keep (F : Nat → Prop) (w w' : World) : Prop where
  os : w'.os = w.os
  tape : w'.tape = w.tape
  output : w'.output = w.output
  size : w.heap.size ≤ w'.heap.size
  block : ∀ k, k < w.heap.size → ¬ F k → w'.heap[k]? = w.heap[k]?
theorem Keep.refl (F : Nat → Prop) (w : World) : Keep F w w := ⟨rfl, rfl, rfl, Nat.le_refl _, fun _ _ _ => rfl⟩
theorem Keep.trans {F F' : Nat → Prop} {a b c : World} (h : Keep F a b) (k : Keep F' b c) (hF : ∀ i, F' i → F i ∨ a.heap.size ≤ i) : Keep F a c :=
  ⟨k.os.trans h.os, k.tape.trans h.tape, k.output.trans h.output, Nat.le_trans h.size k.size,
   fun i hi hn => (k.block i (Nat.lt_of_lt_of_le hi h.size) (fun hi' => by rcases hF i hi' with h1 | h1; exact hn h1; omega)).trans (h.block i hi hn)⟩
theorem Keep.setCell (w : World) (p : Addr) (u : Value) : Keep (fun k => k = p.block) w (w.setCell p u) :=
  ⟨rfl, rfl, rfl, by simp [World.setCell], fun k _ hF => Below.heap_setCell _ _ _ _ hF⟩
theorem Keep.alloc (F : Nat → Prop) (w : World) (o : Obj) : Keep F w (w.alloc o) := ⟨rfl, rfl, rfl, by simp, fun k hk _ => Below.heap_alloc _ _ _ hk⟩
theorem Keep.drew {F : Nat → Prop} {a w : World} (h : Keep F a w) : Keep F a w.drew := ⟨h.os, h.tape, h.output, h.size, h.block⟩
theorem Keep.drewN {F : Nat → Prop} {a w : World} (h : Keep F a w) (q : Nat) : Keep F a (w.drewN q) := ⟨h.os, h.tape, h.output, h.size, h.block⟩
theorem Keep.below {F : Nat → Prop} {a w : World} {B : Nat} (h : Keep F a w) (hF : ∀ k, F k → B ≤ k) (hB : B ≤ a.heap.size) : Below B a w :=
  ⟨h.os, h.tape, h.output, h.size, fun k hk => h.block k (by omega) (fun hk' => by have := hF k hk'; omega)⟩
theorem Keep.cell {F : Nat → Prop} {w w' : World} (h : Keep F w w') (a : Addr) (hk : a.block < w.heap.size) (hF : ¬ F a.block) : w'.cell? a = w.cell? a := World.cell?_of_block (h.block _ hk hF)
theorem Keep.free {F : Nat → Prop} {w w' : World} (h : Keep F w w') (a : Addr) (hk : a.block < w.heap.size) (hF : ¬ F a.block) : w'.frozen? a = w.frozen? a := World.frozen?_of_block (h.block _ hk hF)
theorem Keep.wide {F G : Nat → Prop} {w w' : World} (h : Keep F w w') (hFG : ∀ i, F i → G i) : Keep G w w' := ⟨h.os, h.tape, h.output, h.size, fun i hi hG => h.block i hi (fun hF => hG (hFG i hF))⟩
theorem or2 {a b c d : Prop} (h : a ∨ b) (f : a → c) (g : b → d) : c ∨ d := h.elim (fun q => .inl (f q)) (fun q => .inr (g q))
theorem keep_bel {w w' : World} (h : Below w.heap.size w w') : Keep (fun _ => False) w w' := ⟨h.os, h.tape, h.output, h.size, fun k hk _ => h.block k hk⟩

theorem cell_of (w : World) (b i : Nat) (c : Array Value) (t : TypeId) (h : w.heap[b]? = some (.cells c t)) : w.cell? ⟨b, i, none⟩ = c[i]? := by simp [World.cell?, h]
theorem free_of (w : World) (b i : Nat) (c : Array Value) (t : TypeId) (h : w.heap[b]? = some (.cells c t)) : w.frozen? ⟨b, i, none⟩ = false := by simp [World.frozen?, h]
theorem heap_set (w : World) (b i : Nat) (v : Value) (c : Array Value) (t : TypeId) (h : w.heap[b]? = some (.cells c t)) : (w.setCell ⟨b, i, none⟩ v).heap[b]? = some (.cells (c.setIfInBounds i v) t) := by
  simp [World.setCell, Array.getElem?_modify, h]
theorem heap_other {w : World} {b E i : Nat} {x : Obj} (v : Value) (hE : E ≠ b) (h : w.heap[b]? = some x) : (w.setCell ⟨E, i, none⟩ v).heap[b]? = some x := by
  rw [Below.heap_setCell _ _ _ _ (Ne.symm hE)]; exact h
theorem heap_grow {w : World} {b : Nat} {x : Obj} (o : Obj) (h : w.heap[b]? = some x) : (w.alloc o).heap[b]? = some x := by
  rw [Below.heap_alloc _ _ _ (Array.getElem?_eq_some_iff.1 h).1]; exact h
theorem heap_lt {w : World} {b : Nat} {x : Obj} (h : w.heap[b]? = some x) : b < w.heap.size := (Array.getElem?_eq_some_iff.1 h).1
theorem Keep.at {F : Nat → Prop} {w w' : World} (h : Keep F w w') {b : Nat} {x : Obj} (hb : w.heap[b]? = some x) (hF : ¬ F b) : w'.heap[b]? = some x := (h.block b (heap_lt hb) hF).trans hb
theorem ne_of_types {w : World} {a b : Nat} {c d : Array Value} {s t : TypeId} (h : w.heap[a]? = some (.cells c s)) (k : w.heap[b]? = some (.cells d t)) (hst : s ≠ t) : a ≠ b := fun e => by
  subst e; rw [h] at k; simp only [Option.some.injEq, Obj.cells.injEq] at k; exact hst k.2.1
theorem add_none (b o j : Nat) : (⟨b, o, none⟩ : Addr).add j = ⟨b, o + j, none⟩ := by unfold Addr.add; split <;> simp_all

/-- A block holds a row of one-cell values, f, in its first n cells (and may be written). -/
structure Row (w : World) (L n : Nat) (f : Nat → Value) : Prop where
  cell : ∀ i, i < n → w.cell? ⟨L, i, none⟩ = some (f i)
  free : ∀ i, w.frozen? ⟨L, i, none⟩ = false
theorem cell_set (w : World) (b o j : Nat) (v : Value) (h : (w.cell? ⟨b, o, none⟩).isSome = true) : (w.setCell ⟨b, o, none⟩ v).cell? ⟨b, j, none⟩ = if j = o then some v else w.cell? ⟨b, j, none⟩ := by
  by_cases e : j = o
  · subst e
    obtain ⟨u, hu⟩ := Option.isSome_iff_exists.1 h
    rw [World.cell?_setCell_same _ _ _ hu]; simp
  · rw [World.cell?_setCell_other _ _ _ _ (by intro q; injection q with _ q2 _; exact e q2.symm)]; simp [e]
theorem Row.set {w : World} {L n : Nat} {f : Nat → Value} (h : Row w L n f) (i : Nat) (x : Value) (hi : i < n) : Row (w.setCell ⟨L, i, none⟩ x) L n (fun j => if j = i then x else f j) := by
  refine ⟨fun j hj => ?_, fun j => by rw [World.frozen?_setCell]; exact h.free j⟩
  rw [cell_set _ _ _ _ _ (by rw [h.cell i hi]; rfl), h.cell j hj]
  split <;> rfl
theorem Row.keep {w w' : World} {L n : Nat} {f : Nat → Value} (h : Row w L n f) (hb : w'.heap[L]? = w.heap[L]?) : Row w' L n f :=
  ⟨fun i hi => by rw [World.cell?_of_block (a := ⟨L, i, none⟩) hb]; exact h.cell i hi, fun i => by rw [World.frozen?_of_block (a := ⟨L, i, none⟩) hb]; exact h.free i⟩
theorem Row.congr {w : World} {L n : Nat} {f g : Nat → Value} (h : Row w L n f) (e : ∀ i, i < n → f i = g i) : Row w L n g := ⟨fun i hi => by rw [← e i hi]; exact h.cell i hi, h.free⟩

/-- p shuffles the first n places. -/
def Bij (n : Nat) (p : Nat → Nat) : Prop := ∃ q : Nat → Nat, ∀ i, i < n → p i < n ∧ q i < n ∧ q (p i) = i ∧ p (q i) = i
theorem Bij.id (n : Nat) : Bij n (fun i => i) := ⟨fun i => i, fun _ hi => ⟨hi, hi, rfl, rfl⟩⟩
theorem Bij.lt {n : Nat} {p : Nat → Nat} (h : Bij n p) (i : Nat) (hi : i < n) : p i < n := by obtain ⟨q, h⟩ := h; exact (h i hi).1
theorem Bij.swap {n : Nat} {p : Nat → Nat} (h : Bij n p) {a b : Nat} (ha : a < n) (hb : b < n) : Bij n (fun i => if i = a then p b else if i = b then p a else p i) := by
  obtain ⟨q, h1⟩ := h
  refine ⟨fun j => if q j = a then b else if q j = b then a else q j, fun i hi => ?_⟩
  have A := h1 a ha; have B := h1 b hb; have I := h1 i hi
  refine ⟨?_, ?_, ?_, ?_⟩
  · dsimp only
    repeat' split
    all_goals omega
  · dsimp only
    repeat' split
    all_goals omega
  · dsimp only
    by_cases e1 : i = a
    · simp only [e1, if_true, B.2.2.1]
      by_cases e2 : b = a
      · simp [e2]
      · simp [e2]
    · by_cases e2 : i = b
      · subst e2; simp [e1, A.2.2.1]
      · simp [e1, e2, I.2.2.1]
  · dsimp only
    by_cases e1 : q i = a
    · by_cases e2 : b = a
      · subst e2; simp [e1]; rw [← e1]; exact I.2.2.2
      · simp [e1, e2]; rw [← e1]; exact I.2.2.2
    · by_cases e2 : q i = b
      · simp [e2]; rw [← e2]; exact I.2.2.2
      · simp [e1, e2]; exact I.2.2.2

end Go.Proofs.YbulkdvbsGreat

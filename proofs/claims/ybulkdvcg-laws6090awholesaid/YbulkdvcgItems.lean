/-
  The items and the ends of a classScan in memory.
-/
import Derived.Test.YbulkdvcgLay
namespace Go.Proofs.Ybulkdvcg
open Go.RowKit

theorem cell_set (w : World) (b o j : Nat) (v : Value) (h : (w.cell? ⟨b, o, none⟩).isSome = true) : (w.setCell ⟨b, o, none⟩ v).cell? ⟨b, j, none⟩ = if j = o then some v else w.cell? ⟨b, j, none⟩ := by
  by_cases e : j = o
  · subst e
    obtain ⟨u, hu⟩ := Option.isSome_iff_exists.1 h
    rw [World.cell?_setCell_same _ _ _ hu]; simp
  · rw [World.cell?_setCell_other _ _ _ _ (by intro q; injection q with _ q2 _; exact e q2.symm)]; simp [e]

/-- An item's cells, when the first k are filled in. -/
def iv (k i c : Nat) : Value := if c = 0 then .int .i32 (if i < k then -1 else 0) else .int .u32 0
structure Items (w : World) (A n k : Nat) : Prop where
  cell : ∀ i c, i < n → c < 4 → w.cell? ⟨A, i * 4 + c, none⟩ = some (iv k i c)
  free : ∀ i, w.frozen? ⟨A, i, none⟩ = false
theorem Items.keep {w w' : World} {A n k : Nat} (h : Items w A n k) (hb : w'.heap[A]? = w.heap[A]?) : Items w' A n k :=
  ⟨fun i c hi hc => by rw [World.cell?_of_block (a := ⟨A, i * 4 + c, none⟩) hb]; exact h.cell i c hi hc, fun i => by rw [World.frozen?_of_block (a := ⟨A, i, none⟩) hb]; exact h.free i⟩
theorem Items.step {w : World} {A n k : Nat} (h : Items w A n k) (hk : k < n) : Items ((((w.setCell ⟨A, k * 4, none⟩ (.int .i32 (-1))).setCell ⟨A, k * 4 + 1, none⟩ (.int .u32 0)).setCell ⟨A, k * 4 + 2, none⟩ (.int .u32 0)).setCell ⟨A, k * 4 + 3, none⟩ (.int .u32 0)) A n (k + 1) := by
  have h0 := h.cell k 0 hk (by omega)
  have h1 := h.cell k 1 hk (by omega)
  have h2 := h.cell k 2 hk (by omega)
  have h3 := h.cell k 3 hk (by omega)
  rw [Nat.add_zero] at h0
  refine ⟨fun i c hi hc => ?_, fun i => by rw [World.frozen?_setCell, World.frozen?_setCell, World.frozen?_setCell, World.frozen?_setCell]; exact h.free i⟩
  have e1 : ((w.setCell ⟨A, k * 4, none⟩ (.int .i32 (-1))).cell? ⟨A, k * 4 + 1, none⟩).isSome = true := by rw [cell_set _ _ _ _ _ (by rw [h0]; rfl)]; split <;> simp [h1]
  have e2 : (((w.setCell ⟨A, k * 4, none⟩ (.int .i32 (-1))).setCell ⟨A, k * 4 + 1, none⟩ (.int .u32 0)).cell? ⟨A, k * 4 + 2, none⟩).isSome = true := by rw [cell_set _ _ _ _ _ e1, cell_set _ _ _ _ _ (by rw [h0]; rfl)]; (repeat' split) <;> simp [h2]
  have e3 : ((((w.setCell ⟨A, k * 4, none⟩ (.int .i32 (-1))).setCell ⟨A, k * 4 + 1, none⟩ (.int .u32 0)).setCell ⟨A, k * 4 + 2, none⟩ (.int .u32 0)).cell? ⟨A, k * 4 + 3, none⟩).isSome = true := by rw [cell_set _ _ _ _ _ e2, cell_set _ _ _ _ _ e1, cell_set _ _ _ _ _ (by rw [h0]; rfl)]; (repeat' split) <;> simp [h3]
  rw [cell_set _ _ _ _ _ e3, cell_set _ _ _ _ _ e2, cell_set _ _ _ _ _ e1, cell_set _ _ _ _ _ (by rw [h0]; rfl), h.cell i c hi hc]
  unfold iv
  by_cases hc0 : c = 0
  · subst hc0
    rw [if_neg (by omega), if_neg (by omega), if_neg (by omega)]
    by_cases hik : i = k
    · subst hik; simp
    · rw [if_neg (by omega)]
      by_cases hl : i < k
      · simp [hl, show i < k + 1 by omega]
      · simp [hl, show ¬ i < k + 1 by omega]
  · simp only [hc0, if_false]
    repeat' split
    all_goals first | rfl | omega
theorem items_made (w : World) (A n : Nat) (h : w.heap[A]? = some (.cells (mc z76 4 n) 76)) : Items w A n 0 := by
  refine ⟨fun i c hi hc => ?_, fun i => free_of w A i _ _ h⟩
  rw [cell_of w A _ _ _ h, mc_at z76 4 n i c rfl hi hc]
  unfold iv
  match c, hc with
  | 0, _ => rfl
  | 1, _ => rfl
  | 2, _ => rfl
  | 3, _ => rfl

/-- Block L holds n uint32s, f, and may be written. -/
structure RowU (w : World) (L n : Nat) (f : Nat → Int) : Prop where
  cell : ∀ i, i < n → w.cell? ⟨L, i, none⟩ = some (.int .u32 (f i))
  free : ∀ i, w.frozen? ⟨L, i, none⟩ = false
theorem RowU.set {w : World} {L n : Nat} {f : Nat → Int} (h : RowU w L n f) (i : Nat) (x : Int) (hi : i < n) : RowU (w.setCell ⟨L, i, none⟩ (.int .u32 x)) L n (fun j => if j = i then x else f j) := by
  refine ⟨fun j hj => ?_, fun j => by rw [World.frozen?_setCell]; exact h.free j⟩
  rw [cell_set _ _ _ _ _ (by rw [h.cell i hi]; rfl), h.cell j hj]
  split <;> rfl
theorem RowU.keep {w w' : World} {L n : Nat} {f : Nat → Int} (h : RowU w L n f) (hb : w'.heap[L]? = w.heap[L]?) : RowU w' L n f :=
  ⟨fun i hi => by rw [World.cell?_of_block (a := ⟨L, i, none⟩) hb]; exact h.cell i hi, fun i => by rw [World.frozen?_of_block (a := ⟨L, i, none⟩) hb]; exact h.free i⟩
theorem ends_made (w : World) (B n : Nat) (f : Nat → Int) (h : w.heap[B]? = some (.cells (mc (.int .u32 0) 1 n) 72)) : RowU w B n (fun j => if j < 0 then f j else 0) := by
  refine ⟨fun i hi => ?_, fun i => free_of w B i _ _ h⟩
  have := mc_at (.int .u32 0) 1 n i 0 rfl hi (by omega)
  rw [Nat.mul_one, Nat.add_zero] at this
  rw [cell_of w B _ _ _ h, this]
  simp [Value.cells]
theorem chain_made (w : World) (C n : Nat) (h : w.heap[C]? = some (.cells (mc (.int .i32 0) 1 n) 21)) : Row32 w C n (fun _ => 0) := by
  refine ⟨fun i hi => ?_, fun i => free_of w C i _ _ h⟩
  have := mc_at (.int .i32 0) 1 n i 0 rfl hi (by omega)
  rw [Nat.mul_one, Nat.add_zero] at this
  rw [cell_of w C _ _ _ h, this]
  simp [Value.cells]
theorem ends_step {w : World} {B n k : Nat} {f : Nat → Int} (h : RowU w B n (fun j => if j < k then f j else 0)) (hk : k < n) : RowU (w.setCell ⟨B, k, none⟩ (.int .u32 (f k))) B n (fun j => if j < k + 1 then f j else 0) := by
  have := h.set k (f k) hk
  refine ⟨fun i hi => ?_, this.free⟩
  rw [this.cell i hi]
  by_cases e : i = k
  · subst e; simp
  · by_cases e2 : i < k
    · simp [e, e2, show i < k + 1 by omega]
    · simp [e, e2, show ¬ i < k + 1 by omega]

theorem keep_bel {w w' : World} (h : Below w.heap.size w w') : Keep (fun _ => False) w w' := ⟨h.os, h.tape, h.output, h.size, fun k hk _ => h.block k hk⟩
/-- The closure 'gone' over the variable in block E. -/
def fGone (E : Nat) : Value := .func (.func 16) #[] #[.pointer (some ⟨E, 0, none⟩)]
def fSame : Value := .func (.func 18) #[] #[]
/-- What newClassScan leaves. -/
structure Scan (w : World) (S E K A B C ni nt ns : Nat) (now : Int) (X : Tx) : Prop where
  e : w.cell? ⟨E, 0, none⟩ = some (.pointer (some ⟨K, 0, none⟩))
  k0 : w.cell? ⟨K, 0, none⟩ = some (.pointer (some ⟨S, 0, none⟩))
  k1 : w.cell? ⟨K, 1, none⟩ = some (.int .i64 now)
  k2 : w.cell? ⟨K, 2, none⟩ = some (.slice (some ⟨A, 0, none⟩) ni ni)
  k3 : w.cell? ⟨K, 3, none⟩ = some (.slice (some ⟨B, 0, none⟩) nt nt)
  k4 : w.cell? ⟨K, 4, none⟩ = some (.slice (some ⟨C, 0, none⟩) ns ns)
  k5 : w.cell? ⟨K, 5, none⟩ = some (fGone E)
  k6 : w.cell? ⟨K, 6, none⟩ = some fSame
  z : ∀ i, 7 ≤ i → i < 37 → w.cell? ⟨K, i, none⟩ = (scan0 S A B C ni nt ns)[i]?
  free : ∀ i, w.frozen? ⟨K, i, none⟩ = false
  items : Items w A ni ni
  ends : RowU w B nt (fun j => endN (X.st j) (X.en j))
  chain : Row32 w C ns (fun _ => 0)
  lt : A < w.heap.size ∧ B < w.heap.size ∧ C < w.heap.size
theorem Scan.keep {w w' : World} {S E K A B C ni nt ns : Nat} {now : Int} {X : Tx} (h : Scan w S E K A B C ni nt ns now X) (k : Keep (fun _ => False) w w') : Scan w' S E K A B C ni nt ns now X := by
  have lK : K < w.heap.size := World.block_lt_of_cell? w _ h.k0
  have cK : ∀ i, w'.cell? ⟨K, i, none⟩ = w.cell? ⟨K, i, none⟩ := fun i => k.cell ⟨K, i, none⟩ lK (fun h => h)
  have hz := k.size
  obtain ⟨lA, lB, lC⟩ := h.lt
  exact ⟨(k.cell ⟨E, 0, none⟩ (World.block_lt_of_cell? w _ h.e) (fun h => h)).trans h.e, (cK 0).trans h.k0, (cK 1).trans h.k1, (cK 2).trans h.k2, (cK 3).trans h.k3, (cK 4).trans h.k4, (cK 5).trans h.k5, (cK 6).trans h.k6, fun i h7 h37 => (cK i).trans (h.z i h7 h37), fun i => (k.free ⟨K, i, none⟩ lK (fun h => h)).trans (h.free i), h.items.keep (k.block A lA (fun h => h)), h.ends.keep (k.block B lB (fun h => h)), h.chain.keep (k.block C lC (fun h => h)), by omega, by omega, by omega⟩
theorem scan_of {w wc wA wr : World} {S E K A B C ni nt ns : Nat} {X : Tx} (hf : Fresh w wc S E K A B C ni nt ns) (ka : Keep (fun b => b = A) wc wA) (kb : Keep (fun b => b = B) wA wr) (hi : Items wA A ni ni) (hr : RowU wr B nt (fun j => if j < nt then endN (X.st j) (X.en j) else 0)) :
    Scan ((wr.setCell ⟨K, 5, none⟩ (fGone E)).setCell ⟨K, 6, none⟩ fSame) S E K A B C ni nt ns 0 X ∧ Keep (fun _ => False) w ((wr.setCell ⟨K, 5, none⟩ (fGone E)).setCell ⟨K, 6, none⟩ fSame) := by
  obtain ⟨nEK, nEA, nEB, nEC, nKA, nKB, nKC, nAB, nAC, nBC⟩ := hf.ne
  obtain ⟨lE, lK, lA, lB, lC⟩ := hf.low
  have sE := (Array.getElem?_eq_some_iff.1 hf.e).1
  have sK := (Array.getElem?_eq_some_iff.1 hf.k).1
  have sA := (Array.getElem?_eq_some_iff.1 hf.a).1
  have sB := (Array.getElem?_eq_some_iff.1 hf.b).1
  have sC := (Array.getElem?_eq_some_iff.1 hf.c).1
  have zA := ka.size
  have kk : Keep (fun b => b = K) wr ((wr.setCell ⟨K, 5, none⟩ (fGone E)).setCell ⟨K, 6, none⟩ fSame) := (Keep.setCell wr ⟨K, 5, none⟩ _).trans (Keep.setCell _ ⟨K, 6, none⟩ _) (fun _ h => .inl h)
  have zB := kb.size
  have hK : wr.heap[K]? = some (.cells (scan0 S A B C ni nt ns) 70) := (kb.block K (by omega) nKB).trans ((ka.block K sK nKA).trans hf.k)
  have c5 : (wr.cell? ⟨K, 5, none⟩).isSome = true := by rw [cell_of wr K 5 _ _ hK]; rfl
  have c6 : ((wr.setCell ⟨K, 5, none⟩ (fGone E)).cell? ⟨K, 6, none⟩).isSome = true := by rw [cell_set _ _ _ _ _ c5, cell_of wr K 6 _ _ hK]; rfl
  have hc : ∀ i, i ≠ 5 → i ≠ 6 → ((wr.setCell ⟨K, 5, none⟩ (fGone E)).setCell ⟨K, 6, none⟩ fSame).cell? ⟨K, i, none⟩ = (scan0 S A B C ni nt ns)[i]? := fun i h5 h6 => by
    rw [cell_set _ _ _ _ _ c6, cell_set _ _ _ _ _ c5, if_neg h6, if_neg h5, cell_of wr K i _ _ hK]
  refine ⟨⟨?_, hc 0 (by omega) (by omega), hc 1 (by omega) (by omega), hc 2 (by omega) (by omega), hc 3 (by omega) (by omega), hc 4 (by omega) (by omega), ?_, ?_, fun i h7 _ => hc i (by omega) (by omega), fun i => ?_, ?_, ?_, ?_, ?_⟩, ?_⟩
  · exact (kk.cell ⟨E, 0, none⟩ (by show E < _; omega) nEK).trans ((kb.cell ⟨E, 0, none⟩ (by show E < _; omega) nEB).trans ((ka.cell ⟨E, 0, none⟩ sE nEA).trans (cell_of wc E 0 _ _ hf.e)))
  · rw [cell_set _ _ _ _ _ c6, cell_set _ _ _ _ _ c5]; simp
  · rw [cell_set _ _ _ _ _ c6]; simp
  · rw [World.frozen?_setCell, World.frozen?_setCell]; exact free_of wr K i _ _ hK
  · exact hi.keep ((kk.block A (by omega) (Ne.symm nKA)).trans (kb.block A (by omega) nAB))
  · have h2 := hr.keep (kk.block B (by omega) (Ne.symm nKB))
    exact ⟨fun i hi => by have := h2.cell i hi; simpa [hi] using this, h2.free⟩
  · exact (chain_made wc C ns hf.c).keep ((kk.block C (by omega) (Ne.symm nKC)).trans ((kb.block C (by omega) (Ne.symm nBC)).trans (ka.block C sC (Ne.symm nAC))))
  · have := kk.size; omega
  · exact ((hf.keep.trans ka (fun i h => .inr (by subst h; exact lA))).trans kb (fun i h => .inr (by subst h; exact lB))).trans kk (fun i h => .inr (by subst h; exact lK))

end Go.Proofs.Ybulkdvcg

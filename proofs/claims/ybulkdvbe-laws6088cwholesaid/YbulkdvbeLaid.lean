import Derived.Test.YbulkdvbeMsg
namespace Go.Proofs.Ybulkdvbe
open Go.RowKit

/-- The j-th message's cells. -/
def msgL (B P R : Nat → Int) (j : Nat) : List Value := (msgA (hashA (B j) (P j)) (R j) j).toList
/-- What stands when k messages are laid: below M nothing has turned; the row is there; the first k messages lie. -/
structure Laid (w : World) (M n : Nat) (B P R : Nat → Int) (k : Nat) (wr : World) : Prop where
  below : Below M w wr
  size : M < wr.heap.size
  there : wr.there M 0 (n * 43)
  msgs : ∀ j, j < k → wr.rangeAt M (j * 43) (msgL B P R j)

theorem msgL_len (B P R : Nat → Int) (j : Nat) : (msgL B P R j).length = 43 := by simp [msgL, msgA_size, hashA_size]

theorem Laid.drew {w : World} {M n : Nat} {B P R : Nat → Int} {k : Nat} {wr : World} (h : Laid w M n B P R k wr) : Laid w M n B P R k wr.drew :=
  ⟨h.below.drew, h.size, by simpa using h.there, fun j hj => by simpa using h.msgs j hj⟩
theorem Laid.later {w : World} {M n : Nat} {B P R : Nat → Int} {k : Nat} {wr w' : World} (h : Laid w M n B P R k wr) (hb : Below wr.heap.size wr w') : Laid w M n B P R k w' :=
  ⟨h.below.trans (hb.mono (Nat.le_of_lt h.size)), Nat.lt_of_lt_of_le h.size hb.size,
   fun j hj => by have := h.there j hj; rw [hb.cell (p := ⟨M, 0 + j, none⟩) h.size, hb.frozen (p := ⟨M, 0 + j, none⟩) h.size]; exact this,
   fun j hj i v hv => by rw [hb.cell (p := ⟨M, j * 43 + i, none⟩) h.size]; exact h.msgs j hj i v hv⟩
theorem setCells_size (b : Nat) : ∀ (vs : List Value) (o : Nat) (w : World), (w.setCells b o vs).heap.size = w.heap.size
  | [], _, _ => rfl
  | v :: vs, _, _ => by rw [World.setCells, setCells_size b vs]; simp [World.setCell]
theorem below_setCells {B0 : Nat} {a : World} (b : Nat) (hb : B0 ≤ b) : ∀ (vs : List Value) (o : Nat) (w : World), Below B0 a w → Below B0 a (w.setCells b o vs)
  | [], _, _, h => h
  | v :: vs, o, _, h => below_setCells b hb vs (o + 1) _ (h.setCell hb v)
theorem Laid.store {w : World} {M n : Nat} {B P R : Nat → Int} {k : Nat} {wr : World} (h : Laid w M n B P R k wr) (hk : k < n) : Laid w M n B P R (k + 1) (wr.setCells M (k * 43) (msgL B P R k)) :=
  ⟨below_setCells M (Nat.le_refl _) _ _ _ h.below, by rw [setCells_size]; exact h.size, World.there_setCells h.there _ _ _, fun j hj => by
    by_cases e : j = k
    · subst e
      refine World.rangeAt_setCells_same _ _ _ _ (fun i hi => ?_)
      have := h.there (j * 43 + i) (by rw [msgL_len] at hi; omega)
      simpa using this
    · exact World.rangeAt_setCells_apart (h.msgs j (by omega)) _ _ _ (by rw [msgL_len, msgL_len]; omega)⟩
theorem Laid.weak {w : World} {M n : Nat} {B P R : Nat → Int} {k : Nat} {wr : World} (h : Laid w M n B P R (k + 1) wr) : Laid w M n B P R k wr :=
  ⟨h.below, h.size, h.there, fun j hj => h.msgs j (by omega)⟩
theorem Laid.run_store {w : World} {M n : Nat} {B P R : Nat → Int} {k : Nat} (hk : k < n) (W : World) (h : Laid w M n B P R k W) :
    (opStore 37 (.pointer (some ⟨M, k * 43, none⟩)) (.agg (msgA (hashA (B k) (P k)) (R k) k))).run Yba.prog W = .ok .skip (W.setCells M (k * 43) (msgL B P R k)) :=
  run_store37 W M (k * 43) _ (fun j hj => by have := h.there (k * 43 + j) (by omega); simpa using this) (msgA_size _ _ _ (hashA_size _ _)) (msgA_one _ _ _ (hashA_one _ _))

/-- What the statement that lays a message leans on. -/
def Held7 (w : World) (n b off : Nat) (B P R : Nat → Int) (k : Nat) (w' : World) : Prop :=
  Laid w w.heap.size n B P R k w' ∧ w'.cell? ⟨b, off + k * 3, none⟩ = some (.int .u8 (B k)) ∧ w'.cell? ⟨b, off + k * 3 + 1, none⟩ = some (.int .u8 (P k)) ∧ w'.cell? ⟨b, off + k * 3 + 2, none⟩ = some (.int .u32 (R k))
theorem Held7.drew {w : World} {n b off : Nat} {B P R : Nat → Int} {k : Nat} {w' : World} (h : Held7 w n b off B P R k w') : Held7 w n b off B P R k w'.drew :=
  ⟨h.1.drew, by simpa using h.2.1, by simpa using h.2.2.1, by simpa using h.2.2.2⟩
theorem Held7.later {w : World} {n b off : Nat} {B P R : Nat → Int} {k : Nat} {wr w' : World} (h : Held7 w n b off B P R k wr) (hb : Below wr.heap.size wr w') : Held7 w n b off B P R k w' :=
  ⟨h.1.later hb, by rw [hb.cell (World.block_lt_of_cell? _ _ h.2.1)]; exact h.2.1, by rw [hb.cell (World.block_lt_of_cell? _ _ h.2.2.1)]; exact h.2.2.1, by rw [hb.cell (World.block_lt_of_cell? _ _ h.2.2.2)]; exact h.2.2.2⟩
theorem Held7.store {w : World} {n b off : Nat} {B P R : Nat → Int} {k : Nat} {wr : World} (hbM : b < w.heap.size) (hk : k < n) (h : Held7 w n b off B P R k wr) : Held7 w n b off B P R k (wr.setCells w.heap.size (k * 43) (msgL B P R k)) := by
  have out : ∀ i, (wr.setCells w.heap.size (k * 43) (msgL B P R k)).cell? ⟨b, i, none⟩ = wr.cell? ⟨b, i, none⟩ := fun i =>
    World.cell?_setCells_out _ _ _ _ _ (fun e => by have e' : b = w.heap.size := e; omega)
  exact ⟨(h.1.store hk).weak, by rw [out]; exact h.2.1, by rw [out]; exact h.2.2.1, by rw [out]; exact h.2.2.2⟩

theorem Laid.drewN {w : World} {M n : Nat} {B P R : Nat → Int} {k : Nat} {wr : World} (h : Laid w M n B P R k wr) (q : Nat) : Laid w M n B P R k (wr.drewN q) :=
  ⟨⟨h.below.os, h.below.tape, h.below.output, h.below.size, h.below.block⟩, h.size, fun j hj => by have := h.there j hj; simpa using this, fun j hj i v hv => by have := h.msgs j hj i v hv; simpa using this⟩
theorem Laid.at {w : World} {M n : Nat} {B P R : Nat → Int} {k : Nat} {wr : World} (h : Laid w M n B P R k wr) (j : Nat) (hj : j < k) (i : Nat) (v : Value) (hv : (msgL B P R j)[i]? = some v) : wr.cell? ⟨M, j * 43 + i, none⟩ = some v :=
  h.msgs j hj i v hv
theorem Laid.hash {w : World} {M n : Nat} {B P R : Nat → Int} {k : Nat} {wr : World} (h : Laid w M n B P R k wr) (j : Nat) (hj : j < k) : wr.rangeAt M (j * 43 + 3) (hashA (B j) (P j)).toList := fun i v hv => by
  have hi : i < 32 := by have := (List.getElem?_eq_some_iff.1 hv).1; simpa [hashA_size] using this
  have := h.at j hj (3 + i) v (by
    unfold msgL msgA
    simp only [Array.getElem?_toList] at hv ⊢
    rw [Array.getElem?_append_left (by simp [hashA_size]; omega), Array.getElem?_append_right (by simp)]
    simpa using hv)
  rwa [← Nat.add_assoc] at this
theorem msgL_at (B P R : Nat → Int) (j i : Nat) (v : Value) (hi : 35 ≤ i) (hv : (#[.int .i64 j, .int .i64 0, .pointer none, .slice none 0 0, .int .u32 (R j), .pointer none, .slice none 0 0, .slice none 0 0] : Array Value)[i - 35]? = some v) : (msgL B P R j)[i]? = some v := by
  unfold msgL msgA
  simp only [Array.getElem?_toList]
  rw [Array.getElem?_append_right (by simp [hashA_size]; omega)]
  simpa [hashA_size] using hv
theorem msgL_low (B P R : Nat → Int) (j i : Nat) (v : Value) (hi : i < 3) (hv : (#[.int .u8 0, .int .u64 0, .int .u32 0] : Array Value)[i]? = some v) : (msgL B P R j)[i]? = some v := by
  unfold msgL msgA
  simp only [Array.getElem?_toList]
  rw [Array.getElem?_append_left (by simp; omega), Array.getElem?_append_left (by simp; omega)]
  exact hv

/-- The highest round that a claim with a block names, among the first k. -/
def tops (B R : Nat → Int) : Nat → Option Int
  | 0 => none
  | k + 1 => if B k = 0 then tops B R k else match tops B R k with
    | none => some (R k)
    | some t => if t < R k then some (R k) else some t
theorem best_spec (B R : Nat → Int) : ∀ k, match best B R k with
    | none => tops B R k = none ∧ ∀ i, i < k → B i = 0
    | some j => j < k ∧ B j ≠ 0 ∧ tops B R k = some (R j) ∧ (∀ i, i < j → B i ≠ 0 → R i < R j) ∧ ∀ i, i < k → B i ≠ 0 → R i ≤ R j
  | 0 => by simp [best, tops]
  | k + 1 => by
    have ih := best_spec B R k
    unfold best tops
    by_cases hb : B k = 0
    · rw [if_pos hb, if_pos hb]
      split at ih
      · refine ⟨ih.1, fun i hi => ?_⟩
        by_cases e : i = k
        · subst e; exact hb
        · exact ih.2 i (by omega)
      · rename_i j h
        refine ⟨by omega, ih.2.1, ih.2.2.1, ih.2.2.2.1, fun i hi hbi => ?_⟩
        by_cases e : i = k
        · subst e; exact absurd hb hbi
        · exact ih.2.2.2.2 i (by omega) hbi
    · rw [if_neg hb, if_neg hb]
      split at ih
      · rename_i h; rw [h, ih.1]
        refine ⟨by omega, hb, rfl, fun i hi hbi => absurd (ih.2 i hi) hbi, fun i hi hbi => ?_⟩
        by_cases e : i = k
        · subst e; exact Int.le_refl _
        · exact absurd (ih.2 i (by omega)) hbi
      · rename_i j h; rw [h, ih.2.2.1]
        by_cases hr : R j < R k
        · simp only [if_pos hr]
          refine ⟨by omega, hb, trivial, fun i hi hbi => ?_, fun i hi hbi => ?_⟩
          · have := ih.2.2.2.2 i hi hbi; omega
          · by_cases e : i = k
            · subst e; exact Int.le_refl _
            · have := ih.2.2.2.2 i (by omega) hbi; omega
        · simp only [if_neg hr]
          refine ⟨by omega, ih.2.1, trivial, ih.2.2.2.1, fun i hi hbi => ?_⟩
          by_cases e : i = k
          · subst e; omega
          · exact ih.2.2.2.2 i (by omega) hbi

end Go.Proofs.Ybulkdvbe

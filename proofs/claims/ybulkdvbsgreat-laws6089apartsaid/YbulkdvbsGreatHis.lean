/-
  History: how the transactions end, counted.
-/
import Derived.Test.YbulkdvbsGreatSVN
namespace Go.Proofs.YbulkdvbsGreat
open Go.RowKit

/-- How each transaction ends, as History's map has it before operation i: 99, 97, or 0. -/
def endF (kd tx : Nat → Nat) : Nat → Nat → Option Nat
  | 0 => fun _ => none
  | i + 1 => if kd i = 99 ∨ kd i = 97 then put1 (endF kd tx i) (tx i) (some (kd i)) else if endF kd tx i (tx i) = none then put1 (endF kd tx i) (tx i) (some 0) else endF kd tx i
theorem endF_succ (kd tx : Nat → Nat) (i : Nat) : endF kd tx (i + 1) = if kd i = 99 ∨ kd i = 97 then put1 (endF kd tx i) (tx i) (some (kd i)) else if endF kd tx i (tx i) = none then put1 (endF kd tx i) (tx i) (some 0) else endF kd tx i := rfl
/-- The map's values. -/
def endV (kd tx : Nat → Nat) (i : Nat) : Nat → Option Value := fun t => (endF kd tx i t).map (fun (k : Nat) => Value.int .u8 (k : Int))
theorem endV_put (kd tx : Nat → Nat) (i : Nat) (k : Nat) (h : endF kd tx (i + 1) = put1 (endF kd tx i) (tx i) (some k)) : put1 (endV kd tx i) (tx i) (some (.int .u8 (k : Int))) = endV kd tx (i + 1) := by
  funext t
  unfold endV
  rw [h]
  unfold put1
  by_cases e : t = tx i <;> simp [e]
theorem endF_kind {kd tx : Nat → Nat} {M : Nat} (hk : ∀ i, i < M → kd i = 114 ∨ kd i = 119 ∨ kd i = 99 ∨ kd i = 97) : ∀ i, i ≤ M → ∀ t k, endF kd tx i t = some k → k = 99 ∨ k = 97 ∨ k = 0
  | 0, _, t, k, h => by simp [endF] at h
  | i + 1, hi, t, k, h => by
    have ih := endF_kind hk i (by omega) (tx := tx)
    rw [endF_succ] at h
    split at h
    · rename_i q
      unfold put1 at h
      split at h
      · injection h with h; omega
      · exact ih t k h
    · split at h
      · unfold put1 at h
        split at h
        · injection h with h; omega
        · exact ih t k h
      · exact ih t k h
/-- Only transactions that appear have an entry. -/
theorem endF_some {kd tx : Nat → Nat} : ∀ i t, (endF kd tx i t).isSome = true ↔ ∃ j, j < i ∧ tx j = t
  | 0, t => by simp [endF]
  | i + 1, t => by
    have ih := endF_some (kd := kd) (tx := tx) i t
    have step : (endF kd tx (i + 1) t).isSome = true ↔ ((endF kd tx i t).isSome = true ∨ t = tx i) := by
      rw [endF_succ]
      split
      · unfold put1
        by_cases e : t = tx i <;> simp [e]
      · split
        · unfold put1
          by_cases e : t = tx i <;> simp [e]
        · rename_i q
          constructor
          · exact .inl
          · rintro (h | h)
            · exact h
            · rw [h]; cases e : endF kd tx i (tx i) with
              | none => exact absurd e q
              | some _ => rfl
    rw [step, ih]
    constructor
    · rintro (⟨j, h1, h2⟩ | h)
      · exact ⟨j, by omega, h2⟩
      · exact ⟨i, by omega, h.symm⟩
    · rintro ⟨j, h1, h2⟩
      by_cases e : j = i
      · subst e; exact .inr h2.symm
      · exact .inl ⟨j, by omega, h2⟩
/-- How many of the five. -/
def cnt5 (p : Nat → Bool) : Nat := [1, 2, 3, 4, 5].countP p
theorem cnt5_step (vis q : Nat → Bool) (t : Nat) (ht : 1 ≤ t ∧ t ≤ 5) (hv : vis t = false) : cnt5 (fun s => (vis s || s == t) && q s) = cnt5 (fun s => vis s && q s) + (if q t = true then 1 else 0) := by
  have h5 : t = 1 ∨ t = 2 ∨ t = 3 ∨ t = 4 ∨ t = 5 := by omega
  unfold cnt5
  rcases h5 with rfl | rfl | rfl | rfl | rfl <;> simp only [List.countP_cons, List.countP_nil, hv] <;> simp <;> omega
theorem cnt5_le (p : Nat → Bool) : cnt5 p ≤ 5 := by
  unfold cnt5
  exact List.countP_le_length
end Go.Proofs.YbulkdvbsGreat

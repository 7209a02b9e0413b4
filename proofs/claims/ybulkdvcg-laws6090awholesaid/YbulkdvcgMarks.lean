/-
  The plain law of the live counts: which nodes of a stretch are marked, with what.
-/
import Derived.WalkKit
namespace Go.Proofs.Ybulkdvcg

/-- The marks of the stretch lo..hi, in the order in which they are made. -/
def marks : Nat → Nat → Nat → List (Nat × Nat)
  | 0, _, _ => []
  | f + 1, lo, hi => if hi - lo ≤ 8 then [] else (lo + (hi - lo) / 2, hi - lo) :: (marks f lo (lo + (hi - lo) / 2) ++ marks f (lo + (hi - lo) / 2 + 1) hi)
theorem marks_fuel : ∀ (f g lo hi : Nat), hi - lo ≤ f → hi - lo ≤ g → marks f lo hi = marks g lo hi
  | 0, 0, _, _, _, _ => rfl
  | 0, g + 1, lo, hi, h, _ => by unfold marks; rw [if_pos (by omega)]
  | f + 1, 0, lo, hi, _, h => by unfold marks; rw [if_pos (by omega)]
  | f + 1, g + 1, lo, hi, h1, h2 => by
    unfold marks
    by_cases h : hi - lo ≤ 8
    · rw [if_pos h, if_pos h]
    · rw [if_neg h, if_neg h, marks_fuel f g lo _ (by omega) (by omega), marks_fuel f g _ hi (by omega) (by omega)]
def mks (lo hi : Nat) : List (Nat × Nat) := marks (hi - lo) lo hi
theorem mks_small (lo hi : Nat) (h : hi - lo ≤ 8) : mks lo hi = [] := by
  unfold mks
  cases hd : hi - lo with
  | zero => rfl
  | succ f => unfold marks; rw [if_pos h]
theorem mks_big (lo hi : Nat) (h : ¬ hi - lo ≤ 8) : mks lo hi = (lo + (hi - lo) / 2, hi - lo) :: (mks lo (lo + (hi - lo) / 2) ++ mks (lo + (hi - lo) / 2 + 1) hi) := by
  unfold mks
  cases hd : hi - lo with
  | zero => omega
  | succ f =>
    have e : marks (f + 1) lo hi = if hi - lo ≤ 8 then [] else (lo + (hi - lo) / 2, hi - lo) :: (marks f lo (lo + (hi - lo) / 2) ++ marks f (lo + (hi - lo) / 2 + 1) hi) := rfl
    rw [e, if_neg h, hd, marks_fuel f (lo + (f + 1) / 2 - lo) lo _ (by omega) (by omega), marks_fuel f (hi - (lo + (f + 1) / 2 + 1)) _ hi (by omega) (by omega)]
theorem mks_in (d : Nat) : ∀ lo hi, hi - lo ≤ d → ∀ p ∈ mks lo hi, lo ≤ p.1 ∧ p.1 < hi ∧ p.2 ≤ hi - lo := by
  induction d with
  | zero => intro lo hi hd p hp; rw [mks_small lo hi (by omega)] at hp; cases hp
  | succ d ih =>
    intro lo hi hd p hp
    by_cases h : hi - lo ≤ 8
    · rw [mks_small lo hi h] at hp; cases hp
    · rw [mks_big lo hi h] at hp
      rcases List.mem_cons.1 hp with rfl | hp
      · exact ⟨by simp only; omega, by simp only; omega, Nat.le_refl _⟩
      · rcases List.mem_append.1 hp with hp | hp
        · have := ih _ _ (by omega) p hp; omega
        · have := ih _ _ (by omega) p hp; omega

/-- A row of numbers with the marks laid into it. -/
def lay (f : Nat → Int) : List (Nat × Nat) → Nat → Int
  | [], i => f i
  | p :: ms, i => lay (fun j => if j = p.1 then (p.2 : Int) else f j) ms i
/-- Which places are marked. -/
def seen (f : Nat → Bool) : List (Nat × Nat) → Nat → Bool
  | [], i => f i
  | p :: ms, i => seen (fun j => if j = p.1 then true else f j) ms i
theorem lay_append (f : Nat → Int) : ∀ (a b : List (Nat × Nat)) (i : Nat), lay f (a ++ b) i = lay (lay f a) b i
  | [], _, _ => rfl
  | _ :: a, b, i => lay_append _ a b i
theorem seen_append (f : Nat → Bool) : ∀ (a b : List (Nat × Nat)) (i : Nat), seen f (a ++ b) i = seen (seen f a) b i
  | [], _, _ => rfl
  | _ :: a, b, i => seen_append _ a b i
/-- What is marked holds the mark, whatever lay there; what is not is as it was. -/
theorem lay_seen : ∀ (ms : List (Nat × Nat)) (f g : Nat → Int) (s : Nat → Bool) (i : Nat), (s i = true → f i = g i) → (seen s ms i = true → lay f ms i = lay g ms i)
  | [], f, g, s, i, h => h
  | p :: ms, f, g, s, i, h => lay_seen ms _ _ _ i (fun hs => by
      by_cases e : i = p.1
      · simp [e]
      · simp only [e, if_false] at hs ⊢; exact h hs)
theorem lay_unseen : ∀ (ms : List (Nat × Nat)) (f : Nat → Int) (s : Nat → Bool) (i : Nat), seen s ms i = false → s i = false ∧ lay f ms i = f i
  | [], _, _, _, h => ⟨h, rfl⟩
  | p :: ms, f, s, i, h => by
    obtain ⟨h1, h2⟩ := lay_unseen ms (fun j => if j = p.1 then (p.2 : Int) else f j) (fun j => if j = p.1 then true else s j) i h
    by_cases e : i = p.1
    · simp [e] at h1
    · simp only [e, if_false] at h1
      exact ⟨h1, by show lay _ ms i = f i; rw [h2]; simp [e]⟩

end Go.Proofs.Ybulkdvcg

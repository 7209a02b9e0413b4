/-
  The gathering words: bit i of word j is node 64 j + i.
-/
import Derived.WalkKit
namespace Go.Proofs.Ybulkdvbs

/-- Word j when t nodes are there, those from n on gathering. -/
def wd (n : Nat) : Nat → Nat → Nat
  | 0, _ => 0
  | t + 1, j => if n ≤ t ∧ t / 64 = j then wd n t j ||| 2 ^ (t % 64) else wd n t j

theorem wd_bit (n : Nat) : ∀ t j i, i < 64 → (wd n t j).testBit i = decide (n ≤ 64 * j + i ∧ 64 * j + i < t)
  | 0, j, i, _ => by simp [wd]
  | t + 1, j, i, hi => by
    have ih := wd_bit n t j i hi
    unfold wd
    by_cases h : n ≤ t ∧ t / 64 = j
    · rw [if_pos h, Nat.testBit_or, ih, Nat.testBit_two_pow]
      rw [Bool.eq_iff_iff]
      simp only [Bool.or_eq_true, decide_eq_true_eq]
      omega
    · rw [if_neg h, ih]
      rw [Bool.eq_iff_iff]
      simp only [decide_eq_true_eq]
      omega

theorem wd_lt (n : Nat) : ∀ t j, wd n t j < 2 ^ 64
  | 0, j => by simp [wd]
  | t + 1, j => by
    have ih := wd_lt n t j
    unfold wd
    split
    · exact Nat.or_lt_two_pow ih (Nat.pow_lt_pow_right (by omega) (by omega))
    · exact ih

theorem wd_zero (n : Nat) : ∀ t j, t ≤ n → wd n t j = 0
  | 0, _, _ => rfl
  | t + 1, j, h => by
    unfold wd
    rw [if_neg (by omega)]
    exact wd_zero n t j (by omega)
theorem wd_new (n : Nat) : ∀ t j, t ≤ 64 * j → wd n t j = 0
  | 0, _, _ => rfl
  | t + 1, j, h => by
    unfold wd
    rw [if_neg (by omega)]
    exact wd_new n t j (by omega)

/-- All words when t nodes are there. -/
def gw (n t : Nat) : List Int := (List.range ((t + 63) / 64)).map fun j => (wd n t j : Int)
theorem gw_len (n t : Nat) : (gw n t).length = (t + 63) / 64 := by simp [gw]
theorem gw_at (n t j : Nat) (hj : j < (t + 63) / 64) : (gw n t)[j]? = some (wd n t j : Int) := by simp [gw, hj]
/-- With one word more where one begins. -/
def gw1 (n t : Nat) : List Int := if t % 64 = 0 then gw n t ++ [0] else gw n t
theorem gw1_len (n t : Nat) : (gw1 n t).length = (t + 1 + 63) / 64 := by
  unfold gw1; split <;> simp [gw_len] <;> omega
theorem gw1_at (n t j : Nat) (hj : j < (t + 1 + 63) / 64) : (gw1 n t)[j]? = some (wd n t j : Int) := by
  unfold gw1
  split
  · by_cases h : j < (t + 63) / 64
    · rw [List.getElem?_append_left (by rw [gw_len]; exact h), gw_at n t j h]
    · have e : j = (t + 63) / 64 := by omega
      rw [List.getElem?_append_right (by rw [gw_len]; omega), gw_len, e]
      simp [wd_new n t _ (show t ≤ 64 * ((t + 63) / 64) by omega)]
  · exact gw_at n t j (by omega)
theorem gw_off (n t : Nat) (h : t < n) : gw n (t + 1) = gw1 n t := by
  apply List.ext_getElem?
  intro j
  by_cases hj : j < (t + 1 + 63) / 64
  · rw [gw_at n (t + 1) j hj, gw1_at n t j hj, wd_zero n (t + 1) j (by omega), wd_zero n t j (by omega)]
  · rw [List.getElem?_eq_none (by rw [gw_len]; omega), List.getElem?_eq_none (by rw [gw1_len]; omega)]
theorem gw_on (n t : Nat) (h : n ≤ t) : gw n (t + 1) = (gw1 n t).set (t / 64) ((wd n t (t / 64) ||| 2 ^ (t % 64) : Nat) : Int) := by
  apply List.ext_getElem?
  intro j
  by_cases hj : j < (t + 1 + 63) / 64
  · rw [gw_at n (t + 1) j hj]
    by_cases e : j = t / 64
    · subst e
      rw [List.getElem?_set_self (by rw [gw1_len]; exact hj)]
      simp [wd, h]
    · rw [List.getElem?_set_ne (by omega), gw1_at n t j hj]
      have : ¬ (n ≤ t ∧ t / 64 = j) := by omega
      simp [wd, this]
  · rw [List.getElem?_eq_none (by rw [gw_len]; omega), List.getElem?_eq_none (by rw [List.length_set, gw1_len]; omega)]

/-- '|' on uint64. -/
theorem or_u64 (a b : Nat) (ha : a < 2 ^ 64) (hb : b < 2 ^ 64) : bits .or .u64 (a : Int) (b : Int) = ((a ||| b : Nat) : Int) := by
  have h1 : (BitVec.ofInt 64 (a : Int)) = BitVec.ofNat 64 a := by apply BitVec.eq_of_toNat_eq; simp
  have h2 : (BitVec.ofInt 64 (b : Int)) = BitVec.ofNat 64 b := by apply BitVec.eq_of_toNat_eq; simp
  have hor : a ||| b < 2 ^ 64 := Nat.or_lt_two_pow ha hb
  have h3 : ((BitVec.ofInt 64 (a : Int)) ||| (BitVec.ofInt 64 (b : Int))).toNat = a ||| b := by
    rw [h1, h2]; simp [Nat.mod_eq_of_lt ha, Nat.mod_eq_of_lt hb]
  show IntKind.u64.wrap ((BitVec.ofInt 64 (a : Int)) ||| (BitVec.ofInt 64 (b : Int))).toNat = _
  rw [h3]
  unfold IntKind.wrap
  simp [IntKind.bits, IntKind.signed]
  omega
/-- '& 1' on uint64. -/
theorem and1_u64 (a : Nat) (ha : a < 2 ^ 64) : bits .and .u64 (a : Int) 1 = ((a % 2 : Nat) : Int) := by
  have h1 : (BitVec.ofInt 64 (a : Int)) = BitVec.ofNat 64 a := by apply BitVec.eq_of_toNat_eq; simp
  have h3 : ((BitVec.ofInt 64 (a : Int)) &&& (BitVec.ofInt 64 (1 : Int))).toNat = a % 2 := by
    rw [h1]
    have : (BitVec.ofInt 64 (1 : Int)) = BitVec.ofNat 64 1 := rfl
    rw [this, BitVec.toNat_and]
    simp [Nat.mod_eq_of_lt ha]
  show IntKind.u64.wrap ((BitVec.ofInt 64 (a : Int)) &&& (BitVec.ofInt 64 (1 : Int))).toNat = _
  rw [h3]
  unfold IntKind.wrap
  simp [IntKind.bits, IntKind.signed]
  omega
/-- The bit that the law looks at. -/
theorem bit_of (n t j i : Nat) (hi : i < 64) : ((wd n t j / 2 ^ i) % 2 : Nat) = if n ≤ 64 * j + i ∧ 64 * j + i < t then 1 else 0 := by
  have h := wd_bit n t j i hi
  rw [Nat.testBit_eq_decide_div_mod_eq] at h
  by_cases c : n ≤ 64 * j + i ∧ 64 * j + i < t
  · rw [if_pos c]; simpa [c] using h
  · rw [if_neg c]
    have : ¬ wd n t j / 2 ^ i % 2 = 1 := by simpa [c] using h
    omega

end Go.Proofs.Ybulkdvbs

/-
  The plain law: the edges of a chain, and the last edge out of each node.
-/
import Derived.WalkKit
namespace Go.Proofs.Ybulkdvbs

/-- The last edges, the edges, their number, when b writers are chained. -/
def stE (n m : Nat) (ws : Nat → Nat) : Nat → List Int × List Int × Nat
  | 0 => (List.replicate (n + m) (-1), [], 0)
  | b + 1 =>
    let s := stE n m ws b
    if b = 0 then (s.1.set (ws b) (s.2.2 : Int), s.2.1 ++ [(ws b : Int), ((n + b : Nat) : Int)], s.2.2 + 1)
    else ((s.1.set (ws b) (s.2.2 : Int)).set (n + b - 1) ((s.2.2 + 1 : Nat) : Int), (s.2.1 ++ [(ws b : Int), ((n + b : Nat) : Int)]) ++ [((n + b - 1 : Nat) : Int), ((n + b : Nat) : Int)], s.2.2 + 1 + 1)

structure Chain (n m b : Nat) (L A : List Int) (K : Nat) : Prop where
  len : L.length = n + m
  two : A.length = 2 * K
  few : K ≤ 2 * b
  tgt : ∀ e, e < K → ∃ y : Int, A[2 * e + 1]? = some y ∧ y < ((n + b : Nat) : Int)
  ent : ∀ (u : Nat) (x : Int), L[u]? = some x → x < 0 ∨ ∃ e : Nat, x = e ∧ e < K
  neg : ∀ u, n + b ≤ u + 1 → u < n + m → L[u]? = some (-1)

/-- One edge more, to node v. -/
theorem Chain.tgt_app {n m b v : Nat} {L A : List Int} {K : Nat} (h : Chain n m b L A K) (u : Int) (hv : v = n + b) : ∀ e, e < K + 1 → ∃ y : Int, (A ++ [u, ((v : Nat) : Int)])[2 * e + 1]? = some y ∧ y < ((n + (b + 1) : Nat) : Int) := fun e he => by
  by_cases hk : e < K
  · obtain ⟨y, hy, hlt⟩ := h.tgt e hk
    exact ⟨y, by rw [List.getElem?_append_left (by have := h.two; omega)]; exact hy, by omega⟩
  · have e1 : e = K := by omega
    subst e1
    refine ⟨v, ?_, by omega⟩
    rw [List.getElem?_append_right (by have := h.two; omega), h.two]
    simp

theorem chain_all (n m : Nat) (ws : Nat → Nat) (hw : ∀ i, i < m → ws i < n) : ∀ b, b ≤ m → Chain n m b (stE n m ws b).1 (stE n m ws b).2.1 (stE n m ws b).2.2
  | 0, _ => by
    refine ⟨by simp [stE], by simp [stE], by simp [stE], fun e he => by simp [stE] at he, fun u x hx => ?_, fun u hu hlt => by simp [stE, hlt]⟩
    simp [stE, List.getElem?_replicate] at hx
    omega
  | b + 1, hb => by
    have ih := chain_all n m ws hw b (by omega)
    have hwb := hw b (by omega)
    unfold stE
    generalize stE n m ws b = s at *
    obtain ⟨L, A, K⟩ := s
    simp only at ih
    have hlen := ih.len
    by_cases h0 : b = 0
    · simp only [h0, if_true]
      subst h0
      refine ⟨by simp [hlen], by simp [ih.two]; omega, by have := ih.few; omega, fun e he => ih.tgt_app _ (by omega) e he, fun u x hx => ?_, fun u hu hlt => ?_⟩
      · rw [List.getElem?_set] at hx
        split at hx
        · rename_i e; split at hx
          · simp at hx; exact .inr ⟨K, hx.symm, by simp⟩
          · cases hx
        · rcases ih.ent u x hx with h | ⟨e, he, hk⟩
          · exact .inl h
          · exact .inr ⟨e, he, by omega⟩
      · rw [List.getElem?_set_ne (by omega)]
        exact ih.neg u (by omega) hlt
    · simp only [h0, if_false]
      refine ⟨by simp [hlen], by simp [ih.two]; omega, by have := ih.few; omega, fun e he => ?_, fun u x hx => ?_, fun u hu hlt => ?_⟩
      · by_cases hk : e < K + 1
        · obtain ⟨y, hy, hlt⟩ := ih.tgt_app (v := n + b) (ws b : Int) rfl e hk
          exact ⟨y, by rw [List.getElem?_append_left (by have := ih.two; simp; omega)]; exact hy, hlt⟩
        · have e1 : e = K + 1 := by omega
          subst e1
          refine ⟨((n + b : Nat) : Int), ?_, by omega⟩
          rw [List.getElem?_append_right (by have := ih.two; simp; omega)]
          have := ih.two
          simp [show 2 * (K + 1) + 1 - (A.length + 2) = 1 by omega]
      · rw [List.getElem?_set] at hx
        split at hx
        · split at hx
          · simp at hx; exact .inr ⟨K + 1, by omega, by omega⟩
          · cases hx
        · rw [List.getElem?_set] at hx
          split at hx
          · split at hx
            · simp at hx; exact .inr ⟨K, hx.symm, by omega⟩
            · cases hx
          · rcases ih.ent u x hx with h | ⟨e, he, hk⟩
            · exact .inl h
            · exact .inr ⟨e, he, by omega⟩
      · rw [List.getElem?_set_ne (by omega), List.getElem?_set_ne (by omega)]
        exact ih.neg u (by omega) hlt

/-- The last edge out of each node, off the list of edges. -/
def lastOf (tot : Nat) (A : List Int) : Nat → List Int
  | 0 => List.replicate tot (-1)
  | k + 1 => (lastOf tot A k).set ((A[2 * k]?).getD 0).toNat (k : Int)
theorem lastOf_app (tot : Nat) (A X : List Int) : ∀ k, 2 * k ≤ A.length → lastOf tot (A ++ X) k = lastOf tot A k
  | 0, _ => rfl
  | k + 1, h => by
    unfold lastOf
    rw [lastOf_app tot A X k (by omega), List.getElem?_append_left (by omega)]
theorem lastOf_len (tot : Nat) (A : List Int) : ∀ k, (lastOf tot A k).length = tot
  | 0 => by simp [lastOf]
  | k + 1 => by simp [lastOf, lastOf_len tot A k]
theorem last_all (n m : Nat) (ws : Nat → Nat) (hw : ∀ i, i < m → ws i < n) : ∀ b, b ≤ m → (stE n m ws b).1 = lastOf (n + m) (stE n m ws b).2.1 (stE n m ws b).2.2
  | 0, _ => rfl
  | b + 1, hb => by
    have ih := last_all n m ws hw b (by omega)
    have hc := chain_all n m ws hw b (by omega)
    unfold stE
    generalize stE n m ws b = s at *
    obtain ⟨L, A, K⟩ := s
    simp only at ih hc
    have h2 := hc.two
    have one : ∀ (B : List Int) (k u : Nat) (v : Int), B.length = 2 * k → (lastOf (n + m) B k).set u (k : Int) = lastOf (n + m) (B ++ [(u : Int), v]) (k + 1) := fun B k u v hB => by
      show _ = (lastOf (n + m) (B ++ [(u : Int), v]) k).set _ _
      rw [lastOf_app _ _ _ _ (by omega), List.getElem?_append_right (by omega)]
      simp [hB]
    by_cases h0 : b = 0
    · simp only [h0, if_true]
      rw [ih, one A K (ws 0) _ h2]
    · simp only [h0, if_false]
      rw [ih, one A K (ws b) _ h2, one _ (K + 1) (n + b - 1) _ (by simp; omega)]

end Go.Proofs.Ybulkdvbs

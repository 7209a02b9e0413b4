import Derived.Test.YbulkdvbsState
namespace Go.Proofs.Ybulkdvbs
open Go.RowKit

/-- The chain asked for, at whatever record. -/
theorem chain_st (w0 w1 w2 w3 wr : World) (n m W0 : Nat) (p : Int) (ws : Nat → Nat) (kv vl vg : Value) (hm : m ≤ 65536) (hn : n ≤ 255) (hw : ∀ i, i < m → ws i < n)
    (hB : Below W0 w0 wr) (hW : W0 < wr.heap.size) (hrow : ∀ i, i < m → wr.cell? ⟨W0, i, none⟩ = some (.int .i64 (ws i : Int)))
    (hkv : w1.ownsRow wr.heap.size 3 1 kv m (rowI m ws)) (hb1 : Below wr.heap.size wr w1)
    (hg2 : Gr w2 W0 w1.heap.size n (List.replicate n (-1)) [] 0 (gw n n) vl (.slice none 0 0) (.slice none 0 0) vg) (hs2 : Step (fun _ => False) (foot w1.heap.size vl (.slice none 0 0) (.slice none 0 0) vg) w1 w2)
    (h3 : w3 = w2.alloc (.cells (rnA W0 m m p) 32)) :
    ∃ (tot : Nat) (A : List Int) (K : Nat) (q : Int), Edges n m tot A K ∧ (p < 0 → q = n ∧ tot = n + m ∧ A = (stE n m ws m).2.1) ∧ (¬ p < 0 → q = p ∧ tot = n ∧ A = []) ∧
      Calls Yba.prog 7 #[.pointer (some ⟨w2.heap.size, 0, none⟩), .pointer (some ⟨w1.heap.size, 0, none⟩)] w3 fun e w' => e = .returned (.int .i64 q) ∧
        ∃ vl' va' vk' vg', St w0 W0 n m tot A K q ws W0 w2.heap.size w1.heap.size kv vl' va' vk' vg' w' := by
  subst h3
  have s1 := hb1.size
  have s2 := hs2.size
  have hW2 : W0 < w2.heap.size := by omega
  have e2 : ∀ k, k < w1.heap.size → w2.heap[k]? = w1.heap[k]? := fun k hk => hs2.block k hk (fun h => h)
  have nf : ∀ k, k < w1.heap.size → ¬ foot w1.heap.size vl (.slice none 0 0) (.slice none 0 0) vg k := fun k hk => hs2.out (fun h => h) hk
  have hr : Rn (w2.alloc (.cells (rnA W0 m m p) 32)) w2.heap.size W0 m m p ws := by
    refine ⟨heap_alloc_new w2 _, fun i hi => ?_⟩
    rw [World.cell?_of_block (w := wr) (a := ⟨W0, i, none⟩) ?_]
    · exact hrow i hi
    · rw [Below.heap_alloc _ _ _ hW2, e2 W0 (by omega)]; exact hb1.block W0 hW
  have hg := hg2.alloc (.cells (rnA W0 m m p) 32)
  have hk3 : (w2.alloc (.cells (rnA W0 m m p) 32)).ownsRow W0 3 1 kv m (rowI m ws) := by
    have h1 : w1.ownsRow W0 3 1 kv m (rowI m ws) := by
      obtain ⟨a, h⟩ := hkv
      refine ⟨a, ?_⟩
      rcases h with h | ⟨g, c, cur, x1, x2, x3⟩
      · exact .inl h
      · exact .inr ⟨g, c, cur, x1, by omega, x3⟩
    refine row_keep h1 fun k hk => ?_
    have := (h1.lt k hk).2
    rw [Below.heap_alloc _ _ _ (by omega), e2 k this]
  have hB3 : Below W0 w0 (w2.alloc (.cells (rnA W0 m m p) 32)) :=
    (hB.trans (hb1.mono (by omega))).trans ((⟨hs2.os, hs2.tape, hs2.output, hs2.size, fun k hk => e2 k (by omega)⟩ : Below W0 w1 w2).alloc (by omega) _)
  by_cases hp : p < 0
  · refine ⟨n + m, (stE n m ws m).2.1, (stE n m ws m).2.2, n, ?_, fun _ => ⟨rfl, rfl, rfl⟩, fun h => absurd hp h, ?_⟩
    · have hc := chain_all n m ws hw m (Nat.le_refl _)
      exact ⟨hc.two, hc.few, Nat.le_refl _, src_all n m ws hw m (Nat.le_refl _)⟩
    · refine (chain_built n m w2.heap.size w1.heap.size W0 m W0 p ws vl _ _ vg _ hr hp hw hg (fun h => by have := (hg2.foot_lt _ h).2; omega) (nf W0 (by omega)) (by simp; omega) (by omega) (by omega) hm).mono ?_
      rintro e w' ⟨rfl, vl', va', vk', vg', h1, h2, h3, h4, h5⟩
      refine ⟨rfl, vl', va', vk', vg', ?_, ?_, h2, ?_⟩
      · refine hB3.trans (h3.below (fun k hk => ?_) (by simp; omega))
        rcases hk with hk | hk
        · omega
        · exact (hg.foot_lt k hk).1
      · rw [last_all n m ws hw m (Nat.le_refl _)] at h1; exact h1
      · refine row_keep hk3 fun k hk => h3.block k (hk3.lt k hk).2 (fun h => ?_)
        have hk1 := (hkv.lt k hk).2
        rcases h with h | h
        · omega
        · exact nf k hk1 h
  · refine ⟨n, [], 0, p, ⟨rfl, by omega, by omega, fun e he => by omega⟩, fun h => absurd h hp, fun _ => ⟨rfl, rfl, rfl⟩, ?_⟩
    refine (chain_set w2.heap.size w1.heap.size W0 m m p ws _ hr (by omega)).mono ?_
    rintro e w' ⟨rfl, rfl⟩
    exact ⟨rfl, _, _, _, _, hB3, hg, hr, hk3⟩

end Go.Proofs.Ybulkdvbs

/-
  What stands when the chain has been asked for; and small laws for the law's own walk.
-/
import Derived.Test.YbulkdvbsChain
import Derived.Test.YbulkdvbsEqual
import Derived.Test.YbulkdvbsClone
namespace Go.Proofs.Ybulkdvbs
open Go.RowKit

/-- 'make([]T, n)', shut. -/
def opMk (t : TypeId) (l c : Value) : Sem Next := do pure (.value (← Instr.makeSlice t l c))
section
variable (ρ : Operand → Value) (dst : Option Tmp) (x y : Operand) (ty : TypeId) (pos : String) (after : Array Edge) (guard : Option (Nat × Bool))
theorem exec_make23 : execOp ρ { dst, op := .makeSlice 23 x y, type := ty, pos, after, guard } = opMk 23 (ρ x) (ρ y) := rfl
theorem exec_make35 : execOp ρ { dst, op := .makeSlice 35 x y, type := ty, pos, after, guard } = opMk 35 (ρ x) (ρ y) := rfl
end
/-- A new row of n zeros. -/
def zrow (z : Value) (n : Nat) : Array Value := Array.replicate n z
theorem madeCells_one (z : Value) (n : Nat) : madeCells #[z] n = zrow z n := by
  apply Array.toList_inj.1
  rw [toList_madeCells_one]; simp [zrow]
theorem zrow_size (z : Value) (n : Nat) : (zrow z n).size = n := by simp [zrow]
theorem run_mk23 (w : World) (n : Nat) (hn : n ≤ 1000000) :
    (opMk 23 (.int .i64 n) (.int .i64 n)).run Yba.prog w = .ok (.value (.slice (some ⟨w.heap.size, 0, none⟩) n n)) (w.alloc (.cells (zrow (.int .i64 0) n) 3)) := by
  obtain ⟨i, hi, hz, hs, hb⟩ := inf3
  have h := run_make (P := Yba.prog) w 23 3 i _ Yba.underlying23 hi hz .i64 .i64 n n (by omega) (Int.le_refl _) (by rw [hb]; omega) (by omega)
  unfold opMk
  rw [Sem.run_bind, h, hs]
  simp [Value.cells, madeCells_one]
theorem run_mk35 (w : World) (n : Nat) (hn : n ≤ 1000000) :
    (opMk 35 (.int .i64 n) (.int .i64 n)).run Yba.prog w = .ok (.value (.slice (some ⟨w.heap.size, 0, none⟩) n n)) (w.alloc (.cells (zrow (.int .i32 0) n) 21)) := by
  obtain ⟨i, hi, hz, hs, hb⟩ := inf21
  have h := run_make (P := Yba.prog) w 35 21 i _ Yba.underlying35 hi hz .i64 .i64 n n (by omega) (Int.le_refl _) (by rw [hb]; omega) (by omega)
  unfold opMk
  rw [Sem.run_bind, h, hs]
  simp [Value.cells, madeCells_one]

/-- What stands behind 'got := r.prefixChain(g)': the graph, the runs, the copy. 'A': the edges; 'K': how many; 'tot': how many nodes; 'q': what the runs record. -/
structure St (w : World) (base : Nat) (n m tot : Nat) (A : List Int) (K : Nat) (q : Int) (ws : Nat → Nat) (W R G : Nat) (kv vl va vk vg : Value) (w' : World) : Prop where
  below : Below base w w'
  gr : Gr w' base G n (lastOf tot A K) A K (gw n tot) vl va vk vg
  rn : Rn w' R W m m q ws
  keep : w'.ownsRow base 3 1 kv m (rowI m ws)

/-- What the law knows of the edges. -/
structure Edges (n m tot : Nat) (A : List Int) (K : Nat) : Prop where
  two : A.length = 2 * K
  few : K ≤ 2 * m
  most : tot ≤ n + m
  src : ∀ e, e < K → ∃ u : Nat, A[2 * e]? = some (u : Int) ∧ u < tot

theorem St.keepW {w : World} {base n m tot : Nat} {A : List Int} {K : Nat} {q : Int} {ws : Nat → Nat} {W R G : Nat} {kv vl va vk vg : Value} {w1 w2 : World} (h : St w base n m tot A K q ws W R G kv vl va vk vg w1) (hb : Below w1.heap.size w1 w2) (hB : base ≤ w1.heap.size) (hW : W < w1.heap.size) :
    St w base n m tot A K q ws W R G kv vl va vk vg w2 :=
  ⟨h.below.trans (hb.mono hB), h.gr.keep fun k hk => hb.block k (h.gr.foot_lt k hk).2, h.rn.keep (hb.block R h.rn.lt) (hb.block W hW), row_keep h.keep fun k hk => hb.block k (h.keep.lt k hk).2⟩

/-- A slice's row, as slices.Equal asks it. -/
def RowAt (w : World) (a : Option Addr) (n : Nat) (k : IntKind) (f : Nat → Int) : Prop := 0 < n → ∃ b, a = some ⟨b, 0, none⟩ ∧ ∀ i, i < n → w.cell? ⟨b, i, none⟩ = some (.int k (f i))
theorem RowAt.drewN {w : World} {a : Option Addr} {n : Nat} {k : IntKind} {f : Nat → Int} (h : RowAt w a n k f) (q : Nat) : RowAt (w.drewN q) a n k f := fun hn => by
  obtain ⟨b, h1, h2⟩ := h hn
  exact ⟨b, h1, fun i hi => by simpa using h2 i hi⟩
theorem row_at {w : World} {base : Nat} {e : TypeId} {a : Option Addr} {n c : Nat} {k : IntKind} {xs : List Int} (h : w.ownsRow base e 1 (.slice a n c) n (xs.map (Value.int k))) (f : Nat → Int) (hf : ∀ i, i < n → xs[i]? = some (f i)) : RowAt w a n k f := fun hn => by
  obtain ⟨g, cap, hv, _⟩ := h.form hn
  simp at hv
  obtain ⟨rfl, rfl⟩ := hv
  exact ⟨g, rfl, fun i hi => row_cell h i _ (by rw [List.getElem?_map, hf i hi]; rfl)⟩
theorem row_atI {w : World} {base : Nat} {a : Option Addr} {n c : Nat} {ws : Nat → Nat} (h : w.ownsRow base 3 1 (.slice a n c) n (rowI n ws)) : RowAt w a n .i64 (fun i => (ws i : Int)) := fun hn => by
  obtain ⟨g, cap, hv, _⟩ := h.form hn
  simp at hv
  obtain ⟨rfl, rfl⟩ := hv
  exact ⟨g, rfl, fun i hi => row_cell h i _ (rowI_at n ws i hi)⟩
theorem equal_int' (a1 a2 : Option Addr) (n c1 c2 : Nat) (f : Nat → Int) (w : World) (hn : n ≤ 1000000) (h1 : RowAt w a1 n .i64 f) (h2 : RowAt w a2 n .i64 f) :
    Calls Yba.prog 8 #[.slice a1 n c1, .slice a2 n c2] w fun e w' => e = .returned (.bool true) ∧ ∃ q, w' = w.drewN q := equal_int a1 a2 n c1 c2 f w hn h1 h2
theorem equal_i32' (a1 a2 : Option Addr) (n c1 c2 : Nat) (f : Nat → Int) (w : World) (hn : n ≤ 1000000) (h1 : RowAt w a1 n .i32 f) (h2 : RowAt w a2 n .i32 f) :
    Calls Yba.prog 9 #[.slice a1 n c1, .slice a2 n c2] w fun e w' => e = .returned (.bool true) ∧ ∃ q, w' = w.drewN q := equal_i32 a1 a2 n c1 c2 f w hn h1 h2

/-- The sources of the edges. -/
theorem src_all (n m : Nat) (ws : Nat → Nat) (hw : ∀ i, i < m → ws i < n) : ∀ b, b ≤ m → ∀ e, e < (stE n m ws b).2.2 → ∃ u : Nat, (stE n m ws b).2.1[2 * e]? = some (u : Int) ∧ u < n + m
  | 0, _ => fun e he => by simp [stE] at he
  | b + 1, hb => by
    have ih := src_all n m ws hw b (by omega)
    have hc := chain_all n m ws hw b (by omega)
    have hwb := hw b (by omega)
    unfold stE
    generalize stE n m ws b = s at *
    obtain ⟨L, A, K⟩ := s
    simp only at ih hc
    have h2 := hc.two
    have one : ∀ (B : List Int) (k u : Nat) (v : Int), B.length = 2 * k → (∀ e, e < k → ∃ u : Nat, B[2 * e]? = some (u : Int) ∧ u < n + m) → u < n + m → ∀ e, e < k + 1 → ∃ u' : Nat, (B ++ [(u : Int), v])[2 * e]? = some (u' : Int) ∧ u' < n + m := fun B k u v hB hall hu e he => by
      by_cases hk : e < k
      · obtain ⟨u', h1, h3⟩ := hall e hk
        exact ⟨u', by rw [List.getElem?_append_left (by omega)]; exact h1, h3⟩
      · have e1 : e = k := by omega
        subst e1
        exact ⟨u, by rw [List.getElem?_append_right (by omega), hB]; simp, hu⟩
    by_cases h0 : b = 0
    · simp only [h0, if_true]
      subst h0
      exact one A K (ws 0) _ h2 ih (by omega)
    · simp only [h0, if_false]
      exact one _ (K + 1) (n + b - 1) _ (by simp; omega) (one A K (ws b) _ h2 ih (by omega)) (by omega)

end Go.Proofs.Ybulkdvbs

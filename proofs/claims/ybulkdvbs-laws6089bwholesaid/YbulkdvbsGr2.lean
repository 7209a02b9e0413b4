/-
  What becomes of the graph at a store into one of its rows, and at 'g.f = append(g.f, ..)'.
-/
import Derived.Test.YbulkdvbsGr
namespace Go.Proofs.Ybulkdvbs
open Go.RowKit

/-- What a value that owns a row looks like, nil or not. -/
theorem row_form {w : World} {base : Nat} {e : TypeId} {v : Value} {n : Nat} {xs : List Value} (h : w.ownsRow base e 1 v n xs) : ∃ a c, v = .slice a n c := by
  rcases h.2 with ⟨hv, hn⟩ | ⟨g, cap, cur, hv, _⟩
  · subst hn; exact ⟨none, 0, hv⟩
  · exact ⟨some ⟨g, 0, none⟩, cap, hv⟩
theorem row_cell {w : World} {base : Nat} {e : TypeId} {g n cap : Nat} {xs : List Value} (h : w.ownsRow base e 1 (.slice (some ⟨g, 0, none⟩) n cap) n xs) (j : Nat) (v : Value) (hv : xs[j]? = some v) : w.cell? ⟨g, j, none⟩ = some v := by
  have hj : j < n * 1 := by have := (List.getElem?_eq_some_iff.1 hv).1; rw [h.1] at this; exact this
  rw [h.cellAt j hj, hv]

theorem apart_symm {u v : Value} (h : Apart u v) : Apart v u := fun k a b => h k b a
/-- The new slice of an append is apart from whatever the old one was apart from. -/
theorem apart_new {u x : Value} {g n cap H : Nat} (h : Apart u x) (hu : ∀ k, u.ownBlock = some k → k < H) (hat : x.ownBlock = some g ∨ g = H) : Apart u (.slice (some ⟨g, 0, none⟩) n cap) := fun k a b => by
  have e : g = k := by simpa [Value.ownBlock] using b
  subst e
  rcases hat with h1 | h1
  · exact h g a h1
  · have := hu g a; omega
theorem off_new {G : Nat} {x : Value} {g n cap H : Nat} (h : Off G x) (hG : G < H) (hat : x.ownBlock = some g ∨ g = H) : Off G (.slice (some ⟨g, 0, none⟩) n cap) := fun b => by
  have e : g = G := by simpa [Value.ownBlock] using b
  subst e
  rcases hat with h1 | h1
  · exact h h1
  · omega

theorem heap_setCell_cells (w : World) (b i : Nat) (C : Array Value) (t : TypeId) (v : Value) (h : w.heap[b]? = some (.cells C t (0, 0))) : (w.setCell ⟨b, i, none⟩ v).heap[b]? = some (.cells (C.setIfInBounds i v) t (0, 0)) := by
  simp [World.setCell, Array.getElem?_modify, h]
theorem heap_setCell_ne (w : World) (b i k : Nat) (v : Value) (h : k ≠ b) : (w.setCell ⟨b, i, none⟩ v).heap[k]? = w.heap[k]? := Below.heap_setCell w ⟨b, i, none⟩ v k h

section
variable {w : World} {base G : Nat} {N : Int} {L A : List Int} {K : Nat} {T : List Int} {vl va vk vg : Value}

/-- 'g.last[u] = x'. -/
theorem Gr.setLast {gl n cap : Nat} (h : Gr w base G N L A K T (.slice (some ⟨gl, 0, none⟩) n cap) va vk vg) (u : Nat) (x : Int) :
    Gr (w.setCell ⟨gl, u, none⟩ (.int .i32 x)) base G N (L.set u x) A K T (.slice (some ⟨gl, 0, none⟩) n cap) va vk vg := by
  have hG : G ≠ gl := fun e => h.ol (by rw [e]; rfl)
  have far : ∀ v : Value, Apart (.slice (some ⟨gl, 0, none⟩) n cap) v → ∀ k, v.ownBlock = some k → (w.setCell ⟨gl, u, none⟩ (.int .i32 x)).heap[k]? = w.heap[k]? := fun v hv k hk =>
    heap_setCell_ne _ _ _ _ _ (fun e => hv k (by rw [e]; rfl) hk)
  refine ⟨by rw [heap_setCell_ne _ _ _ _ _ hG]; exact h.blk, h.low, ?_, row_keep h.ra (far _ h.la), row_keep h.rk (far _ h.lk), row_keep h.rg (far _ h.lg), h.ol, h.oa, h.ok, h.og, h.la, h.lk, h.lg, h.ak, h.ag, h.kg⟩
  have hn : n = L.length := by
    rcases h.rl.2 with ⟨hv, _⟩ | ⟨g, c, cur, hv, _⟩
    · cases hv
    · simp at hv; omega
  subst hn
  have := (h.rl.stored u (.int .i32 x)).1
  rw [← List.map_set] at this
  simpa using this

/-- 'g.gathering[j] = x'. -/
theorem Gr.setGath {gg n cap : Nat} (h : Gr w base G N L A K T vl va vk (.slice (some ⟨gg, 0, none⟩) n cap)) (u : Nat) (x : Int) :
    Gr (w.setCell ⟨gg, u, none⟩ (.int .u64 x)) base G N L A K (T.set u x) vl va vk (.slice (some ⟨gg, 0, none⟩) n cap) := by
  have hG : G ≠ gg := fun e => h.og (by rw [e]; rfl)
  have far : ∀ v : Value, Apart v (.slice (some ⟨gg, 0, none⟩) n cap) → ∀ k, v.ownBlock = some k → (w.setCell ⟨gg, u, none⟩ (.int .u64 x)).heap[k]? = w.heap[k]? := fun v hv k hk =>
    heap_setCell_ne _ _ _ _ _ (fun e => hv k hk (by rw [e]; rfl))
  refine ⟨by rw [heap_setCell_ne _ _ _ _ _ hG]; exact h.blk, h.low, row_keep h.rl (far _ h.lg), row_keep h.ra (far _ h.ag), row_keep h.rk (far _ h.kg), ?_, h.ol, h.oa, h.ok, h.og, h.la, h.lk, h.lg, h.ak, h.ag, h.kg⟩
  have hn : n = T.length := by
    rcases h.rg.2 with ⟨hv, _⟩ | ⟨g, c, cur, hv, _⟩
    · cases hv
    · simp at hv; omega
  subst hn
  have := (h.rg.stored u (.int .u64 x)).1
  rw [← List.map_set] at this
  simpa using this

/-- The rows that an append did not touch. -/
theorem row_grown {w1 : World} {e : TypeId} {v x y : Value} {n : Nat} {xs : List Value} {G i : Nat} (hr : w.ownsRow base e 1 v n xs) (hg : w.grownBy w1 x.ownBlock) (hx : Apart v x) (ho : Off G v) : (w1.setCell ⟨G, i, none⟩ y).ownsRow base e 1 v n xs :=
  row_keep hr fun k hk => by
    rw [heap_setCell_ne _ _ _ _ _ (fun e => ho (by rw [← e]; exact hk))]
    exact hg.block k (hr.lt k hk).2 (fun e => hx k hk e.symm)
theorem row_new {w1 : World} {e : TypeId} {v y : Value} {n : Nat} {xs : List Value} {G i : Nat} (hr : w1.ownsRow base e 1 v n xs) (ho : Off G v) : (w1.setCell ⟨G, i, none⟩ y).ownsRow base e 1 v n xs :=
  row_keep hr fun k hk => heap_setCell_ne _ _ _ _ _ (fun e => ho (by rw [← e]; exact hk))

theorem blk_new {w1 : World} {x y : Value} {i : Nat} {C : Array Value} {G : Nat} (hb : w.heap[G]? = some (.cells C 40 (0, 0))) (hG : G < w.heap.size) (hg : w.grownBy w1 x.ownBlock) (ho : Off G x) :
    (w1.setCell ⟨G, i, none⟩ y).heap[G]? = some (.cells (C.setIfInBounds i y) 40 (0, 0)) :=
  heap_setCell_cells _ _ _ _ _ _ (by rw [hg.block G hG (fun e => ho e.symm)]; exact hb)

variable {w1 : World} {g n cap : Nat}
theorem Gr.appL (h : Gr w base G N L A K T vl va vk vg) (xs : List Int) (hown : w1.ownsRow base 21 1 (.slice (some ⟨g, 0, none⟩) (L.length + xs.length) cap) (L.length + xs.length) (L.map (Value.int .i32) ++ xs.map (Value.int .i32)))
    (hgrow : w.grownBy w1 vl.ownBlock) (hat : vl.ownBlock = some g ∨ g = w.heap.size) :
    Gr (w1.setCell ⟨G, 1, none⟩ (.slice (some ⟨g, 0, none⟩) (L.length + xs.length) cap)) base G N (L ++ xs) A K T (.slice (some ⟨g, 0, none⟩) (L.length + xs.length) cap) va vk vg :=
  have o := off_new (n := L.length + xs.length) (cap := cap) h.ol h.lt hat
  ⟨blk_new h.blk h.lt hgrow h.ol, h.low, by rw [List.length_append, List.map_append]; exact row_new hown o, row_grown h.ra hgrow (apart_symm h.la) h.oa, row_grown h.rk hgrow (apart_symm h.lk) h.ok, row_grown h.rg hgrow (apart_symm h.lg) h.og, o, h.oa, h.ok, h.og,
   apart_symm (apart_new (apart_symm h.la) (fun k hk => (h.ra.lt k hk).2) hat), apart_symm (apart_new (apart_symm h.lk) (fun k hk => (h.rk.lt k hk).2) hat), apart_symm (apart_new (apart_symm h.lg) (fun k hk => (h.rg.lt k hk).2) hat), h.ak, h.ag, h.kg⟩
theorem Gr.appA (h : Gr w base G N L A K T vl va vk vg) (xs : List Int) (hown : w1.ownsRow base 21 1 (.slice (some ⟨g, 0, none⟩) (A.length + xs.length) cap) (A.length + xs.length) (A.map (Value.int .i32) ++ xs.map (Value.int .i32)))
    (hgrow : w.grownBy w1 va.ownBlock) (hat : va.ownBlock = some g ∨ g = w.heap.size) :
    Gr (w1.setCell ⟨G, 2, none⟩ (.slice (some ⟨g, 0, none⟩) (A.length + xs.length) cap)) base G N L (A ++ xs) K T vl (.slice (some ⟨g, 0, none⟩) (A.length + xs.length) cap) vk vg :=
  have o := off_new (n := A.length + xs.length) (cap := cap) h.oa h.lt hat
  ⟨blk_new h.blk h.lt hgrow h.oa, h.low, row_grown h.rl hgrow h.la h.ol, by rw [List.length_append, List.map_append]; exact row_new hown o, row_grown h.rk hgrow (apart_symm h.ak) h.ok, row_grown h.rg hgrow (apart_symm h.ag) h.og, h.ol, o, h.ok, h.og,
   apart_new h.la (fun k hk => (h.rl.lt k hk).2) hat, h.lk, h.lg, apart_symm (apart_new (apart_symm h.ak) (fun k hk => (h.rk.lt k hk).2) hat), apart_symm (apart_new (apart_symm h.ag) (fun k hk => (h.rg.lt k hk).2) hat), h.kg⟩
theorem Gr.appK (h : Gr w base G N L A K T vl va vk vg) (hown : w1.ownsRow base 41 1 (.slice (some ⟨g, 0, none⟩) (K + 1) cap) (K + 1) (List.replicate K (Value.int .u8 0) ++ [.int .u8 0]))
    (hgrow : w.grownBy w1 vk.ownBlock) (hat : vk.ownBlock = some g ∨ g = w.heap.size) :
    Gr (w1.setCell ⟨G, 3, none⟩ (.slice (some ⟨g, 0, none⟩) (K + 1) cap)) base G N L A (K + 1) T vl va (.slice (some ⟨g, 0, none⟩) (K + 1) cap) vg :=
  have o := off_new (n := K + 1) (cap := cap) h.ok h.lt hat
  ⟨blk_new h.blk h.lt hgrow h.ok, h.low, row_grown h.rl hgrow h.lk h.ol, row_grown h.ra hgrow h.ak h.oa, by rw [List.replicate_succ']; exact row_new hown o, row_grown h.rg hgrow (apart_symm h.kg) h.og, h.ol, h.oa, o, h.og,
   h.la, apart_new h.lk (fun k hk => (h.rl.lt k hk).2) hat, h.lg, apart_new h.ak (fun k hk => (h.ra.lt k hk).2) hat, h.ag, apart_symm (apart_new (apart_symm h.kg) (fun k hk => (h.rg.lt k hk).2) hat)⟩
theorem Gr.appG (h : Gr w base G N L A K T vl va vk vg) (xs : List Int) (hown : w1.ownsRow base 42 1 (.slice (some ⟨g, 0, none⟩) (T.length + xs.length) cap) (T.length + xs.length) (T.map (Value.int .u64) ++ xs.map (Value.int .u64)))
    (hgrow : w.grownBy w1 vg.ownBlock) (hat : vg.ownBlock = some g ∨ g = w.heap.size) :
    Gr (w1.setCell ⟨G, 4, none⟩ (.slice (some ⟨g, 0, none⟩) (T.length + xs.length) cap)) base G N L A K (T ++ xs) vl va vk (.slice (some ⟨g, 0, none⟩) (T.length + xs.length) cap) :=
  have o := off_new (n := T.length + xs.length) (cap := cap) h.og h.lt hat
  ⟨blk_new h.blk h.lt hgrow h.og, h.low, row_grown h.rl hgrow h.lg h.ol, row_grown h.ra hgrow h.ag h.oa, row_grown h.rk hgrow h.kg h.ok, by rw [List.length_append, List.map_append]; exact row_new hown o, h.ol, h.oa, h.ok, o,
   h.la, h.lk, apart_new h.lg (fun k hk => (h.rl.lt k hk).2) hat, h.ak, apart_new h.ag (fun k hk => (h.ra.lt k hk).2) hat, apart_new h.kg (fun k hk => (h.rk.lt k hk).2) hat⟩
end

end Go.Proofs.Ybulkdvbs

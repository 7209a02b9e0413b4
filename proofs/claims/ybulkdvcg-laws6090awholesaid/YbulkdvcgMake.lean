/-
  The law's makes and copies, shut.
-/
import Derived.Test.YbulkdvcgEq
import Derived.Laws.MakeOwn
namespace Go.Proofs.Ybulkdvcg
open Go.RowKit

theorem inf88 : ∃ i, Yba.prog.info? 88 = some i ∧ i.zero = some (.agg #[.int .i64 0, .int .i64 0, .int .i64 0, .int .i64 0, .int .i64 0, .int .i64 0]) ∧ i.size = 6 ∧ i.bytes = 48 := inf_of (by kernel_rfl)

/-- 'make([]T, n)', shut. -/
def opMk (t : TypeId) (l c : Value) : Sem Next := do pure (.value (← Instr.makeSlice t l c))
/-- 'copy(x, y)', shut. -/
def opCp (t ty : TypeId) (l c : Value) : Sem Next := do pure (.value (← Builtin.copy_ #[t, t] ty #[l, c]))
section
variable (ρ : Operand → Value) (dst : Option Tmp) (x y : Operand) (ty : TypeId) (pos : String) (after : Array Edge) (guard : Option (Nat × Bool))
theorem exec_make35 : execOp ρ { dst, op := .makeSlice 35 x y, type := ty, pos, after, guard } = opMk 35 (ρ x) (ρ y) := rfl
theorem exec_make86 : execOp ρ { dst, op := .makeSlice 86 x y, type := ty, pos, after, guard } = opMk 86 (ρ x) (ρ y) := rfl
theorem exec_make37 : execOp ρ { dst, op := .makeSlice 37 x y, type := ty, pos, after, guard } = opMk 37 (ρ x) (ρ y) := rfl
theorem exec_make85 : execOp ρ { dst, op := .makeSlice 85 x y, type := ty, pos, after, guard } = opMk 85 (ρ x) (ρ y) := rfl
end
theorem made1 (z : Value) (n i : Nat) (hi : i < n) : (madeCells #[z] n)[i]? = some z := by
  simp [madeCells, hi, Nat.mod_one]
theorem run_mk (t e : TypeId) (z : Value) (b : Nat) (ht : Yba.prog.underlying t = some (.slice e)) (hinf : ∃ i, Yba.prog.info? e = some i ∧ i.zero = some z ∧ i.size = 1 ∧ i.bytes = b) (hz : z.cells = #[z]) (hb : b ≤ 8) (w : World) (n : Nat) (hn : n ≤ 2097152) :
    ∃ C, C.size = n ∧ (∀ i, i < n → C[i]? = some z) ∧ (opMk t (.int .i64 n) (.int .i64 n)).run Yba.prog w = .ok (.value (.slice (some ⟨w.heap.size, 0, none⟩) n n)) (w.alloc (.cells C e)) := by
  obtain ⟨i, hi, hz', hs, hb'⟩ := hinf
  have hbn : ((i.bytes : Nat) : Int) * (n : Int) ≤ 281474976710656 := by
    have : i.bytes * n ≤ 8 * 2097152 := Nat.mul_le_mul (by omega) hn
    have h2 : ((i.bytes * n : Nat) : Int) ≤ 281474976710656 := by omega
    rwa [Int.natCast_mul] at h2
  have h := run_make (P := Yba.prog) w t e i _ ht hi hz' .i64 .i64 n n (by omega) (Int.le_refl _) hbn (by omega)
  refine ⟨madeCells z.cells (n * i.size), by rw [size_madeCells, hs, Nat.mul_one], fun j hj => by rw [hs, Nat.mul_one, hz]; exact made1 z n j hj, ?_⟩
  unfold opMk
  rw [Sem.run_bind, h]
  simp
theorem mk37 (w : World) (n : Nat) (hn : n ≤ 2097152) : ∃ w', (opMk 37 (.int .i64 n) (.int .i64 n)).run Yba.prog w = .ok (.value (.slice (some ⟨w.heap.size, 0, none⟩) n n)) w' ∧ Row32 w' w.heap.size n (fun _ => 0) ∧ Keep (fun _ => False) w w' ∧ w'.heap.size = w.heap.size + 1 := by
  obtain ⟨C, h1, h2, h3⟩ := run_mk 37 21 (.int .i32 0) 4 Yba.underlying37 inf21 rfl (by omega) w n hn
  exact ⟨_, h3, ⟨fun i hi => (World.cell?_alloc_at (w := w) _ _ _ _ rfl).trans (h2 i hi), fun i => World.frozen?_alloc_at (w := w) _ _ _ _ rfl⟩, Keep.alloc _ w _, by simp⟩
theorem mk85 (w : World) (n : Nat) (hn : n ≤ 2097152) : ∃ w', (opMk 85 (.int .i64 n) (.int .i64 n)).run Yba.prog w = .ok (.value (.slice (some ⟨w.heap.size, 0, none⟩) n n)) w' ∧ RowB w' w.heap.size n (fun _ => false) ∧ Keep (fun _ => False) w w' ∧ w'.heap.size = w.heap.size + 1 := by
  obtain ⟨C, h1, h2, h3⟩ := run_mk 85 4 (.bool false) 1 Yba.underlying85 inf4 rfl (by omega) w n hn
  exact ⟨_, h3, ⟨fun i hi => (World.cell?_alloc_at (w := w) _ _ _ _ rfl).trans (h2 i hi), fun i => World.frozen?_alloc_at (w := w) _ _ _ _ rfl⟩, Keep.alloc _ w _, by simp⟩

/-- What a node holds in its cell c, when the first k are filled in. -/
def nv (k i c : Nat) : Int := if i < k then (if c = 0 then (i : Int) else if c = 5 then 2 * (i : Int) else 0) else 0
/-- The nodes in memory: the first k filled in. -/
structure Nodes (w : World) (N n k : Nat) : Prop where
  cell : ∀ i c, i < n → c < 6 → w.cell? ⟨N, i * 6 + c, none⟩ = some (.int .i64 (nv k i c))
  free : ∀ i, w.frozen? ⟨N, i, none⟩ = false
theorem Nodes.keep {w w' : World} {N n k : Nat} (h : Nodes w N n k) (hb : w'.heap[N]? = w.heap[N]?) : Nodes w' N n k :=
  ⟨fun i c hi hc => by rw [World.cell?_of_block (a := ⟨N, i * 6 + c, none⟩) hb]; exact h.cell i c hi hc, fun i => by rw [World.frozen?_of_block (a := ⟨N, i, none⟩) hb]; exact h.free i⟩
theorem Nodes.step {w : World} {N n k : Nat} (h : Nodes w N n k) (hk : k < n) : Nodes ((w.setCell ⟨N, k * 6, none⟩ (.int .i64 (k : Int))).setCell ⟨N, k * 6 + 5, none⟩ (.int .i64 (2 * (k : Int)))) N n (k + 1) := by
  refine ⟨fun i c hi hc => ?_, fun i => by rw [World.frozen?_setCell, World.frozen?_setCell]; exact h.free i⟩
  have h0 := h.cell k 0 hk (by omega)
  have h5 := h.cell k 5 hk (by omega)
  rw [Nat.add_zero] at h0
  have h5' : (w.setCell ⟨N, k * 6, none⟩ (.int .i64 (k : Int))).cell? ⟨N, k * 6 + 5, none⟩ = some (.int .i64 (nv k k 5)) := by
    rw [World.cell?_setCell_other _ _ _ _ (by intro q; injection q with _ q2 _; omega)]; exact h5
  by_cases e5 : i * 6 + c = k * 6 + 5
  · have e1 : i = k := by omega
    have e2 : c = 5 := by omega
    subst e1 e2
    rw [World.cell?_setCell_same _ _ _ h5']
    simp [nv]
  · rw [World.cell?_setCell_other _ _ _ _ (by intro q; injection q with _ q2 _; omega)]
    by_cases e0 : i * 6 + c = k * 6
    · have e1 : i = k := by omega
      have e2 : c = 0 := by omega
      subst e1 e2
      rw [Nat.add_zero, World.cell?_setCell_same _ _ _ h0]
      simp [nv]
    · rw [World.cell?_setCell_other _ _ _ _ (by intro q; injection q with _ q2 _; omega), h.cell i c hi hc]
      congr 2
      by_cases hik : i < k
      · simp only [nv, hik, if_true, show i < k + 1 by omega]
      · by_cases hik2 : i < k + 1
        · have : i = k := by omega
          subst this
          simp only [nv, hik, if_false, hik2, if_true, show ¬ c = 0 by omega, show ¬ c = 5 by omega]
        · simp only [nv, hik, hik2, if_false]
theorem mk86 (w : World) (n : Nat) (hn : n ≤ 2097152) : ∃ w', (opMk 86 (.int .i64 n) (.int .i64 n)).run Yba.prog w = .ok (.value (.slice (some ⟨w.heap.size, 0, none⟩) n n)) w' ∧ Nodes w' w.heap.size n 0 ∧ Keep (fun _ => False) w w' ∧ w'.heap.size = w.heap.size + 1 := by
  obtain ⟨i, hi, hz', hs, hb'⟩ := inf88
  have h := run_make (P := Yba.prog) w 86 88 i _ Yba.underlying86 hi hz' .i64 .i64 n n (by omega) (Int.le_refl _) (by rw [hb']; omega) (by omega)
  rw [hs] at h
  refine ⟨w.alloc (.cells (madeCells (Value.cells (.agg #[.int .i64 0, .int .i64 0, .int .i64 0, .int .i64 0, .int .i64 0, .int .i64 0])) (n * 6)) 88), ?_, ⟨fun j c hj hc => ?_, fun j => World.frozen?_alloc_at (w := w) _ _ _ _ rfl⟩, Keep.alloc _ w _, by simp⟩
  · unfold opMk
    rw [Sem.run_bind, h]
    simp
  · refine (World.cell?_alloc_at (w := w) _ _ _ _ rfl).trans ?_
    have hlt : j * 6 + c < n * 6 := by omega
    have hm : (j * 6 + c) % 6 = c := by omega
    have hcs : Value.cells (.agg #[.int .i64 0, .int .i64 0, .int .i64 0, .int .i64 0, .int .i64 0, .int .i64 0]) = #[.int .i64 0, .int .i64 0, .int .i64 0, .int .i64 0, .int .i64 0, .int .i64 0] := rfl
    rw [hcs]
    simp only [madeCells, Array.getElem?_map, Array.getElem?_range, hlt, if_true, Option.map_some]
    have hsz : (#[Value.int .i64 0, .int .i64 0, .int .i64 0, .int .i64 0, .int .i64 0, .int .i64 0] : Array Value).size = 6 := rfl
    rw [hsz, hm]
    have : nv 0 j c = 0 := by simp [nv]
    rw [this]
    match c, hc with
    | 0, _ => rfl
    | 1, _ => rfl
    | 2, _ => rfl
    | 3, _ => rfl
    | 4, _ => rfl
    | 5, _ => rfl

theorem add_none (b o j : Nat) : (⟨b, o, none⟩ : Addr).add j = ⟨b, o + j, none⟩ := by unfold Addr.add; split <;> simp_all
theorem copy32 (w : World) (L n c : Nat) (a : Option Addr) (b o cc : Nat) (f g : Nat → Int) (hr : Row32 w L n g) (ha : 0 < n → a = some ⟨b, o, none⟩) (hs : ∀ i, i < n → w.cell? ⟨b, o + i, none⟩ = some (.int .i32 (f i))) :
    ∃ w', (∀ ty, (Builtin.copy_ #[37, 37] ty #[.slice (some ⟨L, 0, none⟩) n c, .slice a n cc]).run Yba.prog w = .ok (goInt n) w') ∧ Row32 w' L n f ∧ Keep (fun k => k = L) w w' ∧ w'.heap.size = w.heap.size := by
  obtain ⟨i, hi, hz, hsz, hb⟩ := inf21
  have hinf : (Yba.prog.info? 21).map (·.size) = some 1 := by rw [hi]; simp [hsz]
  by_cases hn : n = 0
  · subst hn
    exact ⟨w, fun ty => run_copy_none w 37 37 ty 21 _ _ 0 c 0 cc Yba.underlying37 hinf rfl, ⟨fun i hi => by omega, hr.free⟩, Keep.refl _ _, rfl⟩
  · obtain rfl := ha (by omega)
    have hl : ((List.range n).map fun j => Value.int .i32 (f j)).length = n := by simp
    have ho : ∀ j, j < n → (w.cell? ⟨L, 0 + j, none⟩).isSome = true := fun j hj => by rw [Nat.zero_add, hr.cell j hj]; rfl
    refine ⟨w.setCells L 0 ((List.range n).map fun j => .int .i32 (f j)), fun ty => ?_, ⟨fun j hj => ?_, fun j => by rw [World.frozen?_setCells]; exact hr.free j⟩, Keep.setCells L _ 0 w, ?_⟩
    · have := run_copy_cells w 37 37 ty 21 L 0 n c ⟨b, o, none⟩ n cc ((List.range n).map fun j => .int .i32 (f j)) Yba.underlying37 hinf (by simp) (fun j v hv => by
        have hj : j < n := by have := (List.getElem?_eq_some_iff.1 hv).1; simpa using this
        rw [add_none, hs j hj]; simpa [hj] using hv) (fun j hj => ho j (by simpa using hj)) (fun j _ => hr.free _) (by intro v hv; simp only [List.mem_map] at hv; obtain ⟨_, _, rfl⟩ := hv; rfl)
      rw [hl] at this; exact this
    · have := World.cell?_setCells_in L ((List.range n).map fun j => .int .i32 (f j)) 0 w (fun j hj => ho j (by simpa using hj)) j (by simpa using hj)
      simpa using this
    · exact setCells_size L _ 0 w
where
  setCells_size (b : Nat) : ∀ (vs : List Value) (o : Nat) (w : World), (w.setCells b o vs).heap.size = w.heap.size
    | [], _, _ => rfl
    | _ :: vs, o, w => by rw [World.setCells, setCells_size b vs]; simp [World.setCell]
theorem copyB (w : World) (L n c : Nat) (a : Option Addr) (b o cc : Nat) (f g : Nat → Bool) (hr : RowB w L n g) (ha : 0 < n → a = some ⟨b, o, none⟩) (hs : ∀ i, i < n → w.cell? ⟨b, o + i, none⟩ = some (.bool (f i))) :
    ∃ w', (∀ ty, (Builtin.copy_ #[85, 85] ty #[.slice (some ⟨L, 0, none⟩) n c, .slice a n cc]).run Yba.prog w = .ok (goInt n) w') ∧ RowB w' L n f ∧ Keep (fun k => k = L) w w' ∧ w'.heap.size = w.heap.size := by
  obtain ⟨i, hi, hz, hsz, hb⟩ := inf4
  have hinf : (Yba.prog.info? 4).map (·.size) = some 1 := by rw [hi]; simp [hsz]
  by_cases hn : n = 0
  · subst hn
    exact ⟨w, fun ty => run_copy_none w 85 85 ty 4 _ _ 0 c 0 cc Yba.underlying85 hinf rfl, ⟨fun i hi => by omega, hr.free⟩, Keep.refl _ _, rfl⟩
  · obtain rfl := ha (by omega)
    have hl : ((List.range n).map fun j => Value.bool (f j)).length = n := by simp
    have ho : ∀ j, j < n → (w.cell? ⟨L, 0 + j, none⟩).isSome = true := fun j hj => by rw [Nat.zero_add, hr.cell j hj]; rfl
    refine ⟨w.setCells L 0 ((List.range n).map fun j => .bool (f j)), fun ty => ?_, ⟨fun j hj => ?_, fun j => by rw [World.frozen?_setCells]; exact hr.free j⟩, Keep.setCells L _ 0 w, ?_⟩
    · have := run_copy_cells w 85 85 ty 4 L 0 n c ⟨b, o, none⟩ n cc ((List.range n).map fun j => .bool (f j)) Yba.underlying85 hinf (by simp) (fun j v hv => by
        have hj : j < n := by have := (List.getElem?_eq_some_iff.1 hv).1; simpa using this
        rw [add_none, hs j hj]; simpa [hj] using hv) (fun j hj => ho j (by simpa using hj)) (fun j _ => hr.free _) (by intro v hv; simp only [List.mem_map] at hv; obtain ⟨_, _, rfl⟩ := hv; rfl)
      rw [hl] at this; exact this
    · have := World.cell?_setCells_in L ((List.range n).map fun j => .bool (f j)) 0 w (fun j hj => ho j (by simpa using hj)) j (by simpa using hj)
      simpa using this
    · exact copy32.setCells_size L _ 0 w

end Go.Proofs.Ybulkdvcg

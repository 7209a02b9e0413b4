/-
  What newClassScan makes, laid out.
-/
import Derived.Test.YbulkdvcgGone
import Derived.OrdersHeld
namespace Go.Proofs.Ybulkdvcg
open Go.RowKit

/-- n zeros of a type whose zero is z, k cells each. -/
def mc (z : Value) (k n : Nat) : Array Value := madeCells z.cells (n * k)
theorem run_mkv (t e : TypeId) (z : Value) (k b : Nat) (ht : Yba.prog.underlying t = some (.slice e)) (hinf : ∃ i, Yba.prog.info? e = some i ∧ i.zero = some z ∧ i.size = k ∧ i.bytes = b) (hb : b ≤ 1024) (w : World) (n : Nat) (hn : n ≤ 2097152) :
    (opMk t (.int .i64 n) (.int .i64 n)).run Yba.prog w = .ok (.value (.slice (some ⟨w.heap.size, 0, none⟩) n n)) (w.alloc (.cells (mc z k n) e)) := by
  obtain ⟨i, hi, hz', hs, hb'⟩ := hinf
  have hbn : ((i.bytes : Nat) : Int) * (n : Int) ≤ 281474976710656 := by
    have : i.bytes * n ≤ 1024 * 2097152 := Nat.mul_le_mul (by omega) hn
    have h2 : ((i.bytes * n : Nat) : Int) ≤ 281474976710656 := by omega
    rwa [Int.natCast_mul] at h2
  have h := run_make (P := Yba.prog) w t e i _ ht hi hz' .i64 .i64 n n (by omega) (Int.le_refl _) hbn (by omega)
  unfold opMk
  rw [Sem.run_bind, h, hs]
  simp [mc]
theorem mc_at (z : Value) (k n i c : Nat) (hk : z.cells.size = k) (hi : i < n) (hc : c < k) : (mc z k n)[i * k + c]? = some z.cells[c]! := by
  have hlt : i * k + c < n * k := by
    have : (i + 1) * k ≤ n * k := Nat.mul_le_mul_right k hi
    rw [Nat.add_mul, Nat.one_mul] at this; omega
  have hm : (i * k + c) % k = c := by rw [Nat.add_comm, Nat.add_mul_mod_self_right]; exact Nat.mod_eq_of_lt hc
  unfold mc madeCells
  simp only [Array.getElem?_map, Array.getElem?_range, hlt, if_true, Option.map_some, hk, hm]
section
variable (ρ : Operand → Value) (dst : Option Tmp) (x y : Operand) (ty : TypeId) (pos : String) (after : Array Edge) (guard : Option (Nat × Bool))
theorem exec_make42 : execOp ρ { dst, op := .makeSlice 42 x y, type := ty, pos, after, guard } = opMk 42 (ρ x) (ρ y) := rfl
theorem exec_make43 : execOp ρ { dst, op := .makeSlice 43 x y, type := ty, pos, after, guard } = opMk 43 (ρ x) (ρ y) := rfl
theorem exec_make24 : execOp ρ { dst, op := .makeSlice 24 x y, type := ty, pos, after, guard } = opMk 24 (ρ x) (ρ y) := rfl
theorem exec_make32 : execOp ρ { dst, op := .makeSlice 32 x y, type := ty, pos, after, guard } = opMk 32 (ρ x) (ρ y) := rfl
end
theorem inf76 : ∃ i, Yba.prog.info? 76 = some i ∧ i.zero = some (.agg #[.int .i32 0, .int .u32 0, .int .u32 0, .int .u32 0]) ∧ i.size = 4 ∧ i.bytes = 16 := inf_of (by kernel_rfl)
theorem inf72 : ∃ i, Yba.prog.info? 72 = some i ∧ i.zero = some (.int .u32 0) ∧ i.size = 1 ∧ i.bytes = 4 := inf_of (by kernel_rfl)
def z76 : Value := .agg #[.int .i32 0, .int .u32 0, .int .u32 0, .int .u32 0]
def z29 : Value := .agg #[.int .i64 0, .int .u8 0, .int .i64 0]

theorem cell_of (w : World) (b i : Nat) (c : Array Value) (t : TypeId) (h : w.heap[b]? = some (.cells c t)) : w.cell? ⟨b, i, none⟩ = c[i]? := by simp [World.cell?, h]
theorem free_of (w : World) (b i : Nat) (c : Array Value) (t : TypeId) (h : w.heap[b]? = some (.cells c t)) : w.frozen? ⟨b, i, none⟩ = false := by simp [World.frozen?, h]

/-- The cells of a fresh classScan. -/
def scan0 (S A B C ni nt ns : Nat) : Array Value :=
  #[.pointer (some ⟨S, 0, none⟩), .int .i64 0, .slice (some ⟨A, 0, none⟩) ni ni, .slice (some ⟨B, 0, none⟩) nt nt, .slice (some ⟨C, 0, none⟩) ns ns, .nilFunc, .nilFunc, .slice none 0 0,
    .int .i64 0, .slice none 0 0, .int .i64 0, .slice none 0 0, .int .i64 0, .map none,
    .int .u64 0, .int .i64 0, .slice none 0 0, .slice none 0 0, .slice none 0 0, .slice none 0 0, .slice none 0 0,
    .slice none 0 0, .slice none 0 0, .slice none 0 0, .slice none 0 0, .slice none 0 0, .slice none 0 0, .slice none 0 0, .slice none 0 0,
    .slice none 0 0, .pointer none, .pointer none, .pointer none, .pointer none, .pointer none, .pointer none, .int .i64 0]
/-- What lies behind newClassScan's first statement. -/
structure Fresh (w wx : World) (S E K A B C ni nt ns : Nat) : Prop where
  e : wx.heap[E]? = some (.cells #[.pointer (some ⟨K, 0, none⟩)] 40)
  k : wx.heap[K]? = some (.cells (scan0 S A B C ni nt ns) 70)
  a : wx.heap[A]? = some (.cells (mc z76 4 ni) 76)
  b : wx.heap[B]? = some (.cells (mc (.int .u32 0) 1 nt) 72)
  c : wx.heap[C]? = some (.cells (mc (.int .i32 0) 1 ns) 21)
  keep : Keep (fun _ => False) w wx
  low : w.heap.size ≤ E ∧ w.heap.size ≤ K ∧ w.heap.size ≤ A ∧ w.heap.size ≤ B ∧ w.heap.size ≤ C
  ne : E ≠ K ∧ E ≠ A ∧ E ≠ B ∧ E ≠ C ∧ K ≠ A ∧ K ≠ B ∧ K ≠ C ∧ A ≠ B ∧ A ≠ C ∧ B ≠ C

/-- The frame of newClassScan in its first statement. -/
def act6 (S ni nt ct : Nat) (aT : Option Addr) (v3 v12 v18 v20 v21 v22 v23 : Value) : Act := { tmps := #[Value.pointer (some ⟨S, 0, none⟩), undef, .pointer none, v3, undef, undef, undef, .pointer (some ⟨S, 0, none⟩), .pointer (some ⟨S, 0, none⟩), .pointer (some ⟨S, 0, none⟩), .pointer (some ⟨S, 4, none⟩), .int .i64 (ni : Int), v12, .pointer (some ⟨S, 0, none⟩), .pointer (some ⟨S, 0, none⟩), .pointer (some ⟨S, 0, none⟩), .slice aT nt ct, .int .i64 (nt : Int), v18, .pointer (some ⟨S, 0, none⟩), v20, v21, v22, v23, undef, undef, undef, undef, undef, undef, undef, undef, undef, undef, undef, undef, undef, undef, undef, undef, undef, undef, undef, undef, undef, undef, undef, undef, undef, undef, undef, undef, undef, undef, undef, undef, undef, undef, undef, undef, undef, undef, undef, undef, undef, undef, undef, undef, undef], defers := [] }

theorem count_set : ∀ (l : List Bool) (i : Nat), l[i]? = some false → (l.set i true).count false + 1 = l.count false
  | [], i, h => by simp at h
  | b :: l, 0, h => by simp at h; subst h; simp
  | b :: l, i + 1, h => by
    have := count_set l i (by simpa using h)
    rw [List.set_cons_succ, List.count_cons, List.count_cons]
    omega

/-- A region in whatever order, by what holds of it at every point. -/
theorem wpAnyH_inv {P : Program} {md : Region.Mode} {ops : Array Oper} {Q : Exit → Act → World → Prop} {S : World → Prop} (Inv : Array Bool → Act → World → Prop)
    (hend : ∀ l a w, Inv l a w → Region.ready md ops l = [] → Q .normal a w)
    (hstep : ∀ l a w i, Inv l a w → i ∈ Region.ready md ops l → wpOp P ops Q i (fun a' w' => S w' ∧ Inv (l.setIfInBounds i true) a' w') a w) :
    ∀ (n : Nat) (l : Array Bool) (a : Act) (w : World), l.toList.count false ≤ n → Inv l a w → wpAnyH P md ops Q S n l a w := by
  have hf : ∀ (l : Array Bool) (i : Nat), i ∈ Region.ready md ops l → l.toList[i]? = some false := fun l i hi => by
    have := (mem_ready.1 hi).1
    rcases Nat.lt_or_ge i l.size with h | h
    · simp [h] at this; simp [h, this]
    · simp [Array.getD, Nat.not_lt.2 h] at this
  intro n
  induction n with
  | zero =>
    intro l a w hc hI
    have hr : Region.ready md ops l = [] := by
      cases h : Region.ready md ops l with
      | nil => rfl
      | cons i t =>
        have h1 := hf l i (by rw [h]; simp)
        have := count_set l.toList i h1
        omega
    exact ⟨hr, hend l a w hI hr⟩
  | succ n ih =>
    intro l a w hc hI
    refine ⟨fun hr => hend l a w hI hr, fun i hi => wpOp_mono (fun a' w' h => ⟨h.1, ih _ _ _ ?_ h.2⟩) (hstep l a w i hI hi)⟩
    have := count_set l.toList i (hf l i hi)
    rw [Array.toList_setIfInBounds]
    omega

/-- What holds in newClassScan's first statement, behind the operations that have come up. -/
structure Inv6 (w : World) (S ni nt ns : Nat) (b5 b11 b13 b14 b15 b16 b17 b18 : Bool) (v3 v12 v18 v20 v21 v22 v23 : Value) (wx : World) : Prop where
  keep : Keep (fun _ => False) w wx
  f12 : b5 = true → ∃ A, v12 = .slice (some ⟨A, 0, none⟩) ni ni ∧ w.heap.size ≤ A ∧ wx.heap[A]? = some (.cells (mc z76 4 ni) 76)
  f18 : b11 = true → ∃ B, v18 = .slice (some ⟨B, 0, none⟩) nt nt ∧ w.heap.size ≤ B ∧ wx.heap[B]? = some (.cells (mc (.int .u32 0) 1 nt) 72)
  f20 : b13 = true → v20 = .int .i64 (ns : Int)
  f21 : b14 = true → ∃ C, v21 = .slice (some ⟨C, 0, none⟩) ns ns ∧ w.heap.size ≤ C ∧ wx.heap[C]? = some (.cells (mc (.int .i32 0) 1 ns) 21)
  f22 : b15 = true → ∃ A B C, v22 = .agg (scan0 S A B C ni nt ns) ∧ (w.heap.size ≤ A ∧ wx.heap[A]? = some (.cells (mc z76 4 ni) 76)) ∧ (w.heap.size ≤ B ∧ wx.heap[B]? = some (.cells (mc (.int .u32 0) 1 nt) 72)) ∧ (w.heap.size ≤ C ∧ wx.heap[C]? = some (.cells (mc (.int .i32 0) 1 ns) 21))
  f23 : b16 = true → ∃ K A B C, v23 = .pointer (some ⟨K, 0, none⟩) ∧ (w.heap.size ≤ K ∧ wx.heap[K]? = some (.cells (scan0 S A B C ni nt ns) 70)) ∧ (w.heap.size ≤ A ∧ wx.heap[A]? = some (.cells (mc z76 4 ni) 76)) ∧ (w.heap.size ≤ B ∧ wx.heap[B]? = some (.cells (mc (.int .u32 0) 1 nt) 72)) ∧ (w.heap.size ≤ C ∧ wx.heap[C]? = some (.cells (mc (.int .i32 0) 1 ns) 21))
  f3 : b17 = true → b18 = false → ∃ E, v3 = .pointer (some ⟨E, 0, none⟩) ∧ w.heap.size ≤ E ∧ wx.heap[E]? = some (.cells #[.pointer none] 40)
  ord : b18 = true → b17 = true
  fin : b18 = true → ∃ E K A B C, v3 = .pointer (some ⟨E, 0, none⟩) ∧ Fresh w wx S E K A B C ni nt ns
theorem heap_grow {w : World} {b : Nat} {x : Obj} (o : Obj) (h : w.heap[b]? = some x) : (w.alloc o).heap[b]? = some x := by
  rw [Below.heap_alloc _ _ _ (Array.getElem?_eq_some_iff.1 h).1]; exact h
theorem Fresh.grow {w wx : World} {S E K A B C ni nt ns : Nat} (h : Fresh w wx S E K A B C ni nt ns) (o : Obj) : Fresh w (wx.alloc o) S E K A B C ni nt ns :=
  ⟨heap_grow o h.e, heap_grow o h.k, heap_grow o h.a, heap_grow o h.b, heap_grow o h.c, h.keep.trans (Keep.alloc (fun _ => False) _ o) (fun _ h => h.elim), h.low, h.ne⟩
theorem Inv6.grow {w : World} {S ni nt ns : Nat} {b5 b11 b13 b14 b15 b16 b17 b18 : Bool} {v3 v12 v18 v20 v21 v22 v23 : Value} {wx : World} (h : Inv6 w S ni nt ns b5 b11 b13 b14 b15 b16 b17 b18 v3 v12 v18 v20 v21 v22 v23 wx) (o : Obj) : Inv6 w S ni nt ns b5 b11 b13 b14 b15 b16 b17 b18 v3 v12 v18 v20 v21 v22 v23 (wx.alloc o) where
  keep := h.keep.trans (Keep.alloc (fun _ => False) _ o) (fun _ h => h.elim)
  f12 := fun hb => by obtain ⟨A, h1, h2, h3⟩ := h.f12 hb; exact ⟨A, h1, h2, heap_grow o h3⟩
  f18 := fun hb => by obtain ⟨A, h1, h2, h3⟩ := h.f18 hb; exact ⟨A, h1, h2, heap_grow o h3⟩
  f20 := h.f20
  f21 := fun hb => by obtain ⟨A, h1, h2, h3⟩ := h.f21 hb; exact ⟨A, h1, h2, heap_grow o h3⟩
  f22 := fun hb => by obtain ⟨A, B, C, h1, ⟨h2, h3⟩, ⟨h4, h5⟩, h6, h7⟩ := h.f22 hb; exact ⟨A, B, C, h1, ⟨h2, heap_grow o h3⟩, ⟨h4, heap_grow o h5⟩, h6, heap_grow o h7⟩
  f23 := fun hb => by obtain ⟨K, A, B, C, h1, ⟨h2, h3⟩, ⟨h4, h5⟩, ⟨h6, h7⟩, h8, h9⟩ := h.f23 hb; exact ⟨K, A, B, C, h1, ⟨h2, heap_grow o h3⟩, ⟨h4, heap_grow o h5⟩, ⟨h6, heap_grow o h7⟩, h8, heap_grow o h9⟩
  f3 := fun hb hc => by obtain ⟨A, h1, h2, h3⟩ := h.f3 hb hc; exact ⟨A, h1, h2, heap_grow o h3⟩
  ord := h.ord
  fin := fun hb => by obtain ⟨E, K, A, B, C, h1, h2⟩ := h.fin hb; exact ⟨E, K, A, B, C, h1, h2.grow o⟩
/-- The store of the pointer. -/
theorem heap_other {w : World} {b E : Nat} {x : Obj} (v : Value) (hE : E ≠ b) (h : w.heap[b]? = some x) : (w.setCell ⟨E, 0, none⟩ v).heap[b]? = some x := by
  rw [Below.heap_setCell _ _ _ _ (Ne.symm hE)]; exact h
theorem heap_set {w : World} {E : Nat} {x : Value} {t : TypeId} (v : Value) (h : w.heap[E]? = some (.cells #[x] t)) : (w.setCell ⟨E, 0, none⟩ v).heap[E]? = some (.cells #[v] t) := by
  simp [World.setCell, Array.getElem?_modify, h]
theorem ne_of_types {w : World} {a b : Nat} {c d : Array Value} {s t : TypeId} (h : w.heap[a]? = some (.cells c s)) (k : w.heap[b]? = some (.cells d t)) (hst : s ≠ t) : a ≠ b := fun e => by
  subst e; rw [h] at k; simp only [Option.some.injEq, Obj.cells.injEq] at k; exact hst k.2.1

theorem Inv6.store {w : World} {S ni nt ns : Nat} {b5 b11 b13 b14 b15 : Bool} {v12 v18 v20 v21 v22 : Value} {wx : World} {E K : Nat} (h : Inv6 w S ni nt ns b5 b11 b13 b14 b15 true true false (.pointer (some ⟨E, 0, none⟩)) v12 v18 v20 v21 v22 (.pointer (some ⟨K, 0, none⟩)) wx) :
    Inv6 w S ni nt ns b5 b11 b13 b14 b15 true true true (.pointer (some ⟨E, 0, none⟩)) v12 v18 v20 v21 v22 (.pointer (some ⟨K, 0, none⟩)) (wx.setCell ⟨E, 0, none⟩ (.pointer (some ⟨K, 0, none⟩))) := by
  obtain ⟨E', hE, lE, eE⟩ := h.f3 rfl rfl
  obtain rfl : E = E' := by simpa using hE
  obtain ⟨K', A, B, C, hK, ⟨lK, eK⟩, ⟨lA, eA⟩, ⟨lB, eB⟩, lC, eC⟩ := h.f23 rfl
  obtain rfl : K = K' := by simpa using hK
  have hk : Keep (fun _ => False) w (wx.setCell ⟨E, 0, none⟩ (.pointer (some ⟨K, 0, none⟩))) := h.keep.trans (Keep.setCell wx ⟨E, 0, none⟩ _) (fun i hi => .inr (by subst hi; exact lE))
  refine ⟨hk, fun hb => ?_, fun hb => ?_, h.f20, fun hb => ?_, fun hb => ?_, fun _ => ?_, nofun, fun _ => rfl, fun _ => ?_⟩
  · obtain ⟨A, h1, h2, h3⟩ := h.f12 hb; exact ⟨A, h1, h2, heap_other _ (ne_of_types eE h3 (by decide)) h3⟩
  · obtain ⟨A, h1, h2, h3⟩ := h.f18 hb; exact ⟨A, h1, h2, heap_other _ (ne_of_types eE h3 (by decide)) h3⟩
  · obtain ⟨A, h1, h2, h3⟩ := h.f21 hb; exact ⟨A, h1, h2, heap_other _ (ne_of_types eE h3 (by decide)) h3⟩
  · obtain ⟨A, B, C, h1, ⟨h2, h3⟩, ⟨h4, h5⟩, h6, h7⟩ := h.f22 hb; exact ⟨A, B, C, h1, ⟨h2, heap_other _ (ne_of_types eE h3 (by decide)) h3⟩, ⟨h4, heap_other _ (ne_of_types eE h5 (by decide)) h5⟩, h6, heap_other _ (ne_of_types eE h7 (by decide)) h7⟩
  · exact ⟨K, A, B, C, rfl, ⟨lK, heap_other _ (ne_of_types eE eK (by decide)) eK⟩, ⟨lA, heap_other _ (ne_of_types eE eA (by decide)) eA⟩, ⟨lB, heap_other _ (ne_of_types eE eB (by decide)) eB⟩, lC, heap_other _ (ne_of_types eE eC (by decide)) eC⟩
  · exact ⟨E, K, A, B, C, rfl, heap_set _ eE, heap_other _ (ne_of_types eE eK (by decide)) eK, heap_other _ (ne_of_types eE eA (by decide)) eA, heap_other _ (ne_of_types eE eB (by decide)) eB, heap_other _ (ne_of_types eE eC (by decide)) eC, hk, ⟨lE, lK, lA, lB, lC⟩,
      ne_of_types eE eK (by decide), ne_of_types eE eA (by decide), ne_of_types eE eB (by decide), ne_of_types eE eC (by decide), ne_of_types eK eA (by decide), ne_of_types eK eB (by decide), ne_of_types eK eC (by decide), ne_of_types eA eB (by decide), ne_of_types eA eC (by decide), ne_of_types eB eC (by decide)⟩

end Go.Proofs.Ybulkdvcg

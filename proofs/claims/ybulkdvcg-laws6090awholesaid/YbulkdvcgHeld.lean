/-
  What the law holds behind its call of newClassScan.
-/
import Derived.Test.YbulkdvcgTs
import Derived.Lib.Builder
import Derived.Laws.Cover3
namespace Go.Proofs.Ybulkdvcg
open Go.RowKit

theorem run_eqf {t : TypeId} {ps rs : Array TypeId} {v : Bool} (ht : Yba.prog.underlying t = some (.func ps rs v)) (W : World) (fn : Fn) (a b : Array Value) : (binOp .eql t (.func fn a b) .nilFunc).run Yba.prog W = .ok (.bool false) W := by
  have h : ∀ d : Nat, (Op.equalIn (d + 1) t (.func fn a b) .nilFunc).run Yba.prog W = .ok false W := fun d => by
    simp [Op.equalIn, run_underlying ht]
  simp only [binOp]
  simp [Op.equal, Op.maxDepth, h 9999]
theorem run_neqS (S : Nat) (W : World) : (binOp .neq 31 (.pointer (some ⟨S, 0, none⟩)) (.pointer (some ⟨S, 0, none⟩))).run Yba.prog W = .ok (.bool false) W := by
  obtain ⟨j, hj⟩ : ∃ j, Yba.prog.info? 39 = some j := Option.isSome_iff_exists.1 (by kernel_rfl)
  exact Lib.run_neq_ptr_same W ⟨S, 0, none⟩ Yba.underlying31 hj
theorem run_neqM (W : World) : (binOp .neq 50 (.map none) (.map none)).run Yba.prog W = .ok (.bool false) W := run_neq_map_nil (P := Yba.prog) (w := W) 50 9 21 none Yba.underlying50

/-- The Schedule that the law makes. -/
def sched (aT : Option Addr) (m cT Z ns ni : Nat) : Array Value := #[.slice aT m cT, .string ⟨#[]⟩, .slice (some ⟨Z, 0, none⟩) ns ns, .slice none 0 0, .int .i64 (ni : Int), .slice none 0 0, .slice none 0 0, .slice none 0 0, .slice none 0 0, .slice none 0 0]
structure Held (w wx : World) (aT cb : Option Addr) (m cT T cc D S Z E K A B C ni ns : Nat) (now : Int) (X : Tx) : Prop where
  scan : Scan wx S E K A B C ni m ns now X
  ts : Ts wx aT m cT T X
  cl : 0 < m → cb = some ⟨D, 0, none⟩ ∧ D < wx.heap.size ∧ TRow wx D m X
  s0 : wx.cell? ⟨S, 0, none⟩ = some (.slice aT m cT)
  s2 : wx.cell? ⟨S, 2, none⟩ = some (.slice (some ⟨Z, 0, none⟩) ns ns)
  s4 : wx.cell? ⟨S, 4, none⟩ = some (.int .i64 (ni : Int))
  keep : Keep (fun _ => False) w wx
  low : w.heap.size ≤ K
  ne : E ≠ K ∧ K ≠ B ∧ S ≠ K ∧ (0 < m → T ≠ K) ∧ (0 < m → D ≠ K)
theorem Held.keep2 {w wx wy : World} {aT cb : Option Addr} {m cT T cc D S Z E K A B C ni ns : Nat} {now : Int} {X : Tx} (h : Held w wx aT cb m cT T cc D S Z E K A B C ni ns now X) (k : Keep (fun _ => False) wx wy) : Held w wy aT cb m cT T cc D S Z E K A B C ni ns now X where
  scan := h.scan.keep k
  ts := h.ts.keep k (fun h => h)
  cl := fun h0 => by obtain ⟨h1, h2, h3⟩ := h.cl h0; exact ⟨h1, Nat.lt_of_lt_of_le h2 k.size, h3.keep (k.block D h2 (fun h => h))⟩
  s0 := (k.cell ⟨S, 0, none⟩ (World.block_lt_of_cell? wx _ h.s0) (fun h => h)).trans h.s0
  s2 := (k.cell ⟨S, 2, none⟩ (World.block_lt_of_cell? wx _ h.s2) (fun h => h)).trans h.s2
  s4 := (k.cell ⟨S, 4, none⟩ (World.block_lt_of_cell? wx _ h.s4) (fun h => h)).trans h.s4
  keep := h.keep.trans k (fun _ h => h.elim)
  low := h.low
  ne := h.ne
/-- What the law holds behind 'k.now = now'. -/
structure Late (w wx : World) (aT cb : Option Addr) (m cT T D S Z E K B ni ns : Nat) (now : Int) (X : Tx) : Prop where
  e : wx.cell? ⟨E, 0, none⟩ = some (.pointer (some ⟨K, 0, none⟩))
  k1 : wx.cell? ⟨K, 1, none⟩ = some (.int .i64 now)
  k3 : wx.cell? ⟨K, 3, none⟩ = some (.slice (some ⟨B, 0, none⟩) m m)
  k5 : wx.cell? ⟨K, 5, none⟩ = some (.func (.func 16) #[] #[.pointer (some ⟨E, 0, none⟩)])
  ends : RowU wx B m (fun j => endN (X.st j) (X.en j))
  lt : B < wx.heap.size
  ts : Ts wx aT m cT T X
  cl : 0 < m → cb = some ⟨D, 0, none⟩ ∧ D < wx.heap.size ∧ TRow wx D m X
  s0 : wx.cell? ⟨S, 0, none⟩ = some (.slice aT m cT)
  s2 : wx.cell? ⟨S, 2, none⟩ = some (.slice (some ⟨Z, 0, none⟩) ns ns)
  s4 : wx.cell? ⟨S, 4, none⟩ = some (.int .i64 (ni : Int))
  keep : Keep (fun _ => False) w wx
theorem Late.keep2 {w wx wy : World} {aT cb : Option Addr} {m cT T D S Z E K B ni ns : Nat} {now : Int} {X : Tx} (h : Late w wx aT cb m cT T D S Z E K B ni ns now X) (k : Keep (fun _ => False) wx wy) : Late w wy aT cb m cT T D S Z E K B ni ns now X where
  e := (k.cell ⟨E, 0, none⟩ (World.block_lt_of_cell? wx _ h.e) (fun h => h)).trans h.e
  k1 := (k.cell ⟨K, 1, none⟩ (World.block_lt_of_cell? wx _ h.k1) (fun h => h)).trans h.k1
  k3 := (k.cell ⟨K, 3, none⟩ (World.block_lt_of_cell? wx _ h.k3) (fun h => h)).trans h.k3
  k5 := (k.cell ⟨K, 5, none⟩ (World.block_lt_of_cell? wx _ h.k5) (fun h => h)).trans h.k5
  ends := h.ends.keep (k.block B h.lt (fun h => h))
  lt := Nat.lt_of_lt_of_le h.lt k.size
  ts := h.ts.keep k (fun h => h)
  cl := fun h0 => by obtain ⟨h1, h2, h3⟩ := h.cl h0; exact ⟨h1, Nat.lt_of_lt_of_le h2 k.size, h3.keep (k.block D h2 (fun h => h))⟩
  s0 := (k.cell ⟨S, 0, none⟩ (World.block_lt_of_cell? wx _ h.s0) (fun h => h)).trans h.s0
  s2 := (k.cell ⟨S, 2, none⟩ (World.block_lt_of_cell? wx _ h.s2) (fun h => h)).trans h.s2
  s4 := (k.cell ⟨S, 4, none⟩ (World.block_lt_of_cell? wx _ h.s4) (fun h => h)).trans h.s4
  keep := h.keep.trans k (fun _ h => h.elim)
theorem Held.late {w wx : World} {aT cb : Option Addr} {m cT T cc D S Z E K A B C ni ns : Nat} {now : Int} {X : Tx} (h : Held w wx aT cb m cT T cc D S Z E K A B C ni ns 0 X) : Late w (wx.setCell ⟨K, 1, none⟩ (.int .i64 now)) aT cb m cT T D S Z E K B ni ns now X := by
  obtain ⟨n1, n2, n3, n4, n5⟩ := h.ne
  have k : Keep (fun b => b = K) wx (wx.setCell ⟨K, 1, none⟩ (.int .i64 now)) := Keep.setCell wx ⟨K, 1, none⟩ _
  have c1 : (wx.cell? ⟨K, 1, none⟩).isSome = true := by rw [h.scan.k1]; rfl
  have hz := k.size
  refine ⟨(k.cell ⟨E, 0, none⟩ (World.block_lt_of_cell? wx _ h.scan.e) n1).trans h.scan.e, ?_, ?_, ?_, h.scan.ends.keep (k.block B h.scan.lt.2.1 (Ne.symm n2)), Nat.lt_of_lt_of_le h.scan.lt.2.1 hz, ?_, fun h0 => ?_, (k.cell ⟨S, 0, none⟩ (World.block_lt_of_cell? wx _ h.s0) n3).trans h.s0, (k.cell ⟨S, 2, none⟩ (World.block_lt_of_cell? wx _ h.s2) n3).trans h.s2, (k.cell ⟨S, 4, none⟩ (World.block_lt_of_cell? wx _ h.s4) n3).trans h.s4, h.keep.trans k (fun i hi => .inr (by subst hi; exact h.low))⟩
  · rw [cell_set _ _ _ _ _ c1]; simp
  · rw [cell_set _ _ _ _ _ c1, if_neg (by omega)]; exact h.scan.k3
  · rw [cell_set _ _ _ _ _ c1, if_neg (by omega)]; exact h.scan.k5
  · by_cases h0 : 0 < m
    · exact h.ts.keep k (n4 h0)
    · rcases h.ts with ⟨h1, h2, h3⟩ | ⟨h1, h2, h3⟩
      · exact .inl ⟨h1, h2, h3⟩
      · exact .inr ⟨h1, Nat.lt_of_lt_of_le h2 hz, fun i c hi => by omega⟩
  · obtain ⟨h1, h2, h3⟩ := h.cl h0
    exact ⟨h1, Nat.lt_of_lt_of_le h2 hz, h3.keep (k.block D h2 (n5 h0))⟩
theorem scan_call {w wc w1 : World} {aT cb : Option Addr} {m cT T cc D ni ns : Nat} {X : Tx} (hm : m ≤ 1048576) (hni : ni ≤ 65535) (hns : ns ≤ 65535) (hst : ∀ i, 0 ≤ X.st i ∧ X.st i ≤ 255)
    (ht : Ts wc aT m cT T X) (kc : Keep (fun _ => False) w wc) (k1 : Keep (fun _ => False) wc w1) (hD : 0 < m → cb = some ⟨D, 0, none⟩ ∧ D < w1.heap.size ∧ TRow w1 D m X) :
    Calls Yba.prog 6 #[.pointer (some ⟨w1.heap.size + 1, 0, none⟩)] ((w1.alloc (.cells (mc z119 3 ns) 119)).alloc (.cells (sched aT m cT w1.heap.size ns ni) 39)) fun e w' => ∃ E K A B C : Nat, e = .returned (.pointer (some ⟨K, 0, none⟩)) ∧ Held w w' aT cb m cT T cc D (w1.heap.size + 1) w1.heap.size E K A B C ni ns 0 X := by
  have hb : ((w1.alloc (.cells (mc z119 3 ns) 119)).alloc (.cells (sched aT m cT w1.heap.size ns ni) 39)).heap[w1.heap.size + 1]? = some (.cells (sched aT m cT w1.heap.size ns ni) 39) := by
    have := heap_alloc_new (w1.alloc (.cells (mc z119 3 ns) 119)) (.cells (sched aT m cT w1.heap.size ns ni) 39)
    simpa using this
  have k2 : Keep (fun _ => False) w1 ((w1.alloc (.cells (mc z119 3 ns) 119)).alloc (.cells (sched aT m cT w1.heap.size ns ni) 39)) := (Keep.alloc _ w1 _).trans (Keep.alloc (fun _ => False) _ _) (fun _ h => h.elim)
  have hz : ((w1.alloc (.cells (mc z119 3 ns) 119)).alloc (.cells (sched aT m cT w1.heap.size ns ni) 39)).heap.size = w1.heap.size + 2 := by simp
  generalize (w1.alloc (.cells (mc z119 3 ns) 119)).alloc (.cells (sched aT m cT w1.heap.size ns ni) 39) = W at *
  have t2 : Ts W aT m cT T X := (ht.keep k1 (fun h => h)).keep k2 (fun h => h)
  have kW : Keep (fun _ => False) w W := (kc.trans k1 (fun _ h => h.elim)).trans k2 (fun _ h => h.elim)
  have hT1 : 0 < m → T < w1.heap.size := fun h => by
    rcases ht with ⟨_, rfl, _⟩ | ⟨_, h2, _⟩
    · omega
    · exact Nat.lt_of_lt_of_le h2 k1.size
  refine (scan_any (w1.heap.size + 1) m cT ni ns ns aT (some ⟨w1.heap.size, 0, none⟩) W hni hm hns (cell_of W _ 0 _ _ hb) (cell_of W _ 2 _ _ hb) (cell_of W _ 4 _ _ hb) T X (fun h => t2.row h) hst).mono ?_
  rintro e w' ⟨E, K, A, B, C, rfl, hs, hk, hl, n1, n2⟩
  refine ⟨E, K, A, B, C, rfl, hs, t2.keep hk (fun h => h), fun h0 => ?_, (hk.cell ⟨_, 0, none⟩ (by show w1.heap.size + 1 < _; omega) (fun h => h)).trans (cell_of W _ 0 _ _ hb), (hk.cell ⟨_, 2, none⟩ (by show w1.heap.size + 1 < _; omega) (fun h => h)).trans (cell_of W _ 2 _ _ hb), (hk.cell ⟨_, 4, none⟩ (by show w1.heap.size + 1 < _; omega) (fun h => h)).trans (cell_of W _ 4 _ _ hb), kW.trans hk (fun _ h => h.elim), ?_, n1, n2, by omega, fun h => ?_, fun h => ?_⟩
  · obtain ⟨h1, h2, h3⟩ := hD h0
    have kk : Keep (fun _ => False) w1 w' := k2.trans hk (fun _ h => h.elim)
    exact ⟨h1, Nat.lt_of_lt_of_le h2 kk.size, h3.keep (kk.block D h2 (fun h => h))⟩
  · have := kW.size; omega
  · have := hT1 h; omega
  · have := (hD h).2.1; omega

end Go.Proofs.Ybulkdvcg

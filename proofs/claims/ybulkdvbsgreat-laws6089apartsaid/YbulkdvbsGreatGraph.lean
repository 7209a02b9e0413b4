/-
  conflictGraph, walked.
-/
import Derived.Test.YbulkdvbsGreatBack
import Derived.Test.YbulkdvbsGreatWriters
namespace Go.Proofs.YbulkdvbsGreat
open Go.RowKit Go.Shelf

theorem GB.ty {w : World} {G n E : Nat} {la : Option Addr} {lc : Nat} {aa : Option Addr} {ac : Nat} {ka : Option Addr} {kc : Nat} {ga : Option Addr} {gc : Nat} {last src dst kd : Nat → Int} (h : GB w G n E la lc aa ac ka kc ga gc last src dst kd) {b : Nat} (hb : gOwn G la aa ka b) : ∃ c t, w.heap[b]? = some (.cells c t) ∧ (t = 201 ∨ t = 21 ∨ t = 96) := by
  rcases hb with rfl | q | q | q
  · exact ⟨_, _, h.blk, .inl rfl⟩
  · obtain ⟨c, hc⟩ := h.vl.block_ty q; exact ⟨c, _, hc, .inr (.inl rfl)⟩
  · obtain ⟨c, hc⟩ := h.va.block_ty q; exact ⟨c, _, hc, .inr (.inl rfl)⟩
  · obtain ⟨c, hc⟩ := h.vk.block_ty q; exact ⟨c, _, hc, .inr (.inr rfl)⟩
theorem GB.off {w : World} {G n E : Nat} {la : Option Addr} {lc : Nat} {aa : Option Addr} {ac : Nat} {ka : Option Addr} {kc : Nat} {ga : Option Addr} {gc : Nat} {last src dst kd : Nat → Int} (h : GB w G n E la lc aa ac ka kc ga gc last src dst kd) {b : Nat} {c : Array Value} {t : TypeId} (hb : w.heap[b]? = some (.cells c t)) (ht : t ≠ 201 ∧ t ≠ 21 ∧ t ≠ 96) : ¬ gOwn G la aa ka b := fun q => by
  obtain ⟨c', t', h1, h2⟩ := h.ty q
  rw [hb] at h1
  simp only [Option.some.injEq, Obj.cells.injEq] at h1
  have := h1.2.1
  subst this
  rcases h2 with e | e | e
  · exact ht.1 e
  · exact ht.2.1 e
  · exact ht.2.2 e
/-- The graph while it is built, with one set of writers; the blocks P0 are not touched. -/
structure CG (wr : World) (G n : Nat) (ga : Option Addr) (gc : Nat) (down : Bool) (m RB WB TR NB EX : Nat) (P0 : Nat → Prop) : Prop where
  g : ∃ E la lc aa ac ka kc last src dst kd, GB wr G n E la lc aa ac ka kc ga gc last src dst kd ∧ E ≤ EX ∧ ∀ b, P0 b → ¬ gOwn G la aa ka b
  ws : WS wr WB TR n RB
  st : ∃ nd, ST wr TR G down m n NB nd
  nb : ¬ P0 NB
  own : P0 WB ∧ P0 RB ∧ P0 TR
  lt : ∀ b, P0 b → b < wr.heap.size
theorem CG.keepF {wr w' : World} {G n : Nat} {ga : Option Addr} {gc : Nat} {down : Bool} {m RB WB TR NB EX : Nat} {P0 : Nat → Prop} (h : CG wr G n ga gc down m RB WB TR NB EX P0) (k : Keep (fun _ => False) wr w') : CG w' G n ga gc down m RB WB TR NB EX P0 := by
  obtain ⟨E, la, lc, aa, ac, ka, kc, last, src, dst, kd, hg, hE, hP⟩ := h.g
  obtain ⟨nd, hs⟩ := h.st
  exact ⟨⟨E, la, lc, aa, ac, ka, kc, last, src, dst, kd, hg.keep k (fun _ q => q.elim), hE, hP⟩, h.ws.keep k id id, ⟨nd, hs.keep k id id⟩, h.nb, h.own, fun b hb => Nat.lt_of_lt_of_le (h.lt b hb) k.size⟩
theorem CG.link {wr : World} {G n : Nat} {ga : Option Addr} {gc : Nat} {down : Bool} {m RB WB TR NB EX : Nat} {P0 : Nat → Prop} (h : CG wr G n ga gc down m RB WB TR NB EX P0) (hn : n ≤ 5) (hm : m ≤ 3) (hE : EX ≤ 100000) (u lo : Nat) (d : Int) (hu : u < n) (hlo : lo < m) (hd : 1 ≤ d ∧ d ≤ 63) :
    Calls Ybaz.prog 51 #[.pointer (some ⟨WB, 0, none⟩), .int .i64 (u : Int), .int .i64 (lo : Int), .int .i64 ((lo : Int) + 1), .int .u8 d] wr fun e w' => e = .returned (.tuple #[]) ∧ Hid (CG w' G n ga gc down m RB WB TR NB (EX + 1) P0) ∧ Hid (Keep (fun b => ¬ P0 b) wr w') := by
  obtain ⟨E, la, lc, aa, ac, ka, kc, last, src, dst, kd, hg, hEE, hP⟩ := h.g
  obtain ⟨nd, hs⟩ := h.st
  refine (wlink_any WB RB TR G down m n NB nd u lo d wr E la lc aa ac ka kc ga gc last src dst kd h.ws hs hg hu hlo hm hn hd (by omega)).mono ?_
  rintro e w' ⟨rfl, hx⟩
  obtain ⟨E', la', lc', aa', ac', ka', kc', last', src', dst', kd', hg', hk, hb, hE'⟩ := hx
  obtain ⟨cs, hcs⟩ := hs.ty
  refine ⟨rfl, ⟨⟨E', la', lc', aa', ac', ka', kc', last', src', dst', kd', hg', by omega, fun b hb0 q => ?_⟩, h.ws.keep hk (hP _ h.own.1) (hP _ h.own.2.1), ⟨nd, hs.keep hk (hP _ h.own.2.2) (hg.off hcs (by decide))⟩, h.nb, h.own, fun b hb => Nat.lt_of_lt_of_le (h.lt b hb) hk.size⟩, hk.wide (fun b q p => hP b p q)⟩
  rcases hb b q with r | r
  · exact hP b hb0 r
  · have := h.lt b hb0; omega
theorem CG.take {wr : World} {G n : Nat} {ga : Option Addr} {gc : Nat} {down : Bool} {m RB WB TR NB EX : Nat} {P0 : Nat → Prop} (h : CG wr G n ga gc down m RB WB TR NB EX P0) (hm : m ≤ 3) (u lo : Nat) (hu : u < n) (hlo : lo < m) :
    Calls Ybaz.prog 52 #[.pointer (some ⟨WB, 0, none⟩), .int .i64 (u : Int), .int .i64 (lo : Int)] wr fun e w' => e = .returned (.tuple #[]) ∧ Hid (CG w' G n ga gc down m RB WB TR NB EX P0) ∧ Hid (Keep (fun b => ¬ P0 b) wr w') := by
  obtain ⟨E, la, lc, aa, ac, ka, kc, last, src, dst, kd, hg, hEE, hP⟩ := h.g
  obtain ⟨nd, hs⟩ := h.st
  refine (take_any WB RB TR G down m n NB nd u lo wr h.ws hs hu hlo hm).mono ?_
  rintro e w' ⟨rfl, hx, hk⟩
  obtain ⟨cs, hcs⟩ := hs.ty
  have nbo := hg.off hcs (by decide)
  have nbg : ¬ ga = some ⟨NB, 0, none⟩ := fun q => by
    obtain ⟨c, hc⟩ := hg.vg.block_ty q
    exact ne_of_types hc hcs (by decide) rfl
  have n1 : ∀ b, P0 b → ¬ b = NB := fun b hb q => h.nb (q ▸ hb)
  refine ⟨rfl, ⟨⟨E, la, lc, aa, ac, ka, kc, last, src, dst, kd, ?_, hEE, hP⟩, h.ws.keep hk (n1 _ h.own.1) (n1 _ h.own.2.1), hx, h.nb, h.own, fun b hb => Nat.lt_of_lt_of_le (h.lt b hb) hk.size⟩, hk.wide (fun b q p => n1 b p q)⟩
  refine hg.keep hk ?_
  rintro b rfl
  exact ⟨nbo, nbg⟩
/-- One block more. -/
theorem CG.alloc {wr : World} {G n : Nat} {ga : Option Addr} {gc : Nat} {down : Bool} {m RB WB TR NB EX : Nat} {P0 : Nat → Prop} (h : CG wr G n ga gc down m RB WB TR NB EX P0) (o : Obj) : CG (wr.alloc o) G n ga gc down m RB WB TR NB EX (fun b => P0 b ∨ b = wr.heap.size) := by
  have k := Keep.alloc (fun _ => False) wr o
  have h2 := h.keepF k
  obtain ⟨E, la, lc, aa, ac, ka, kc, last, src, dst, kd, hg, hEE, hP⟩ := h.g
  obtain ⟨nd, hs⟩ := h.st
  obtain ⟨cs, hcs⟩ := hs.ty
  have := heap_lt hcs
  refine ⟨⟨E, la, lc, aa, ac, ka, kc, last, src, dst, kd, hg.keep k (fun _ q => q.elim), hEE, ?_⟩, h2.ws, h2.st, ?_, ⟨.inl h.own.1, .inl h.own.2.1, .inl h.own.2.2⟩, ?_⟩
  · rintro b (hb | rfl)
    · exact hP b hb
    · intro q; have := hg.own_lt q; omega
  · rintro (q | q)
    · exact h.nb q
    · omega
  · rintro b (q | rfl)
    · exact h2.lt b q
    · simp
/-- New writers. -/
theorem CG.fresh {w1 w2 : World} {G n E : Nat} {la : Option Addr} {lc : Nat} {aa : Option Addr} {ac : Nat} {ka : Option Addr} {kc : Nat} {ga : Option Addr} {gc : Nat} {last src dst kd : Nat → Int} (hg : GB w1 G n E la lc aa ac ka kc ga gc last src dst kd) {down : Bool} {m RB WB EX : Nat} {P0 : Nat → Prop} (hE : E ≤ EX) (hP : ∀ b, P0 b → ¬ gOwn G la aa ka b) (hlt : ∀ b, P0 b → b < w1.heap.size) (hRB : P0 RB) (hw : NewWriters G m n RB down w1 w2 WB) :
    Keep (fun _ => False) w1 w2 ∧ ∃ TR NB, CG w2 G n ga gc down m RB WB TR NB EX (fun b => P0 b ∨ b = WB ∨ b = TR) := by
  obtain ⟨TR, NB, nd, hws, hst, k, h1, h2, h3⟩ := hw
  obtain ⟨cs, hcs⟩ := hst.ty
  refine ⟨k, TR, NB, ⟨E, la, lc, aa, ac, ka, kc, last, src, dst, kd, hg.keep k (fun _ q => q.elim), hE, ?_⟩, hws, ⟨nd, hst⟩, ?_, ⟨.inr (.inl rfl), .inl hRB, .inr (.inr rfl)⟩, ?_⟩
  · rintro b (hb | rfl | rfl)
    · exact hP b hb
    · intro q; have := hg.own_lt q; omega
    · intro q; have := hg.own_lt q; omega
  · rintro (q | q | q)
    · have := hlt _ q; omega
    · obtain ⟨hd, hb⟩ := hws.blk
      rw [q] at hcs
      exact ne_of_types hb hcs (by decide) rfl
    · rw [q] at hcs
      exact ne_of_types hst.blk hcs (by decide) rfl
  · rintro b (hb | rfl | rfl)
    · exact Nat.lt_of_lt_of_le (hlt b hb) k.size
    · obtain ⟨hd, hb⟩ := hws.blk; exact heap_lt hb
    · exact heap_lt hst.blk
attribute [local go_sem ↓] exec_make62 exec_make86
attribute [local go_sem] Oper.semAt_some
/-- Loop 1: nobody reads a range. -/
structure L1 (w wr : World) (n : Nat) : Prop where
  row : Row wr w.heap.size n (fun _ => .bool false)
  lt : w.heap.size < wr.heap.size
  keep : Keep (fun _ => False) w wr
/-- What newGraph answers. -/
def NewG (w w' : World) (n : Nat) (e : Ending) : Prop := ∃ G, e = .returned (.pointer (some ⟨G, 0, none⟩)) ∧ ∃ la lc gt gc, w'.heap[G]? = some (.cells (gcells n (.slice la n lc) vnil vnil (.slice gt (gn n) gc) vnil vnil vnil vnil) 201) ∧
      Vec w' 21 1 la n lc (fun _ _ => .int .i32 (-1)) ∧ Vec w' 31 1 gt (gn n) gc (fun _ _ => .int .u64 0) ∧ Keep (fun _ => False) w w' ∧ w.heap.size ≤ G ∧ (∀ b, la = some ⟨b, 0, none⟩ → w.heap.size ≤ b) ∧ (∀ b, gt = some ⟨b, 0, none⟩ → w.heap.size ≤ b)
/-- Loop 2: the empty slots. -/
structure L2 (w wr : World) (m i : Nat) : Prop where
  row : ∃ f, Row wr w.heap.size m f ∧ ∀ j, j < i → f j = .int .i64 (-1)
  lt : w.heap.size < wr.heap.size
  keep : Keep (fun _ => False) w wr
/-- What newWriters answers. -/
def NewW (G m n RB : Nat) (down : Bool) (w w' : World) (e : Ending) : Prop := ∃ WB, e = .returned (.pointer (some ⟨WB, 0, none⟩)) ∧ NewWriters G m n RB down w w' WB
/-- Loop 3: the graph grows. -/
structure L3 (w wr : World) (G n : Nat) (ga : Option Addr) (gc : Nat) (down : Bool) (m WB TR NB EX EB : Nat) (P0 : Nat → Prop) : Prop where
  cg : CG wr G n ga gc down m w.heap.size WB TR NB EX P0
  row : Row wr EB m (fun _ => .int .i64 (-1))
  keep : Keep (fun _ => False) w wr
theorem CG.less {wr : World} {G n : Nat} {ga : Option Addr} {gc : Nat} {down : Bool} {m RB WB TR NB EX : Nat} {P0 P1 : Nat → Prop} (h : CG wr G n ga gc down m RB WB TR NB EX P0) (hP : ∀ b, P1 b → P0 b) (ho : P1 WB ∧ P1 RB ∧ P1 TR) {EX' : Nat} (hE : EX ≤ EX') : CG wr G n ga gc down m RB WB TR NB EX' P1 := by
  obtain ⟨E, la, lc, aa, ac, ka, kc, last, src, dst, kd, hg, hEE, hP0⟩ := h.g
  exact ⟨⟨E, la, lc, aa, ac, ka, kc, last, src, dst, kd, hg, by omega, fun b hb => hP0 b (hP b hb)⟩, h.ws, h.st, fun q => h.nb (hP _ q), ho, fun b hb => h.lt b (hP b hb)⟩
/-- A round of loop 3 under way: the step lies in a box. -/
structure L3b (w wr : World) (G n : Nat) (ga : Option Addr) (gc : Nat) (down : Bool) (m WB TR NB EX EB : Nat) (P0 : Nat → Prop) (bX : Nat) (u l : Nat) (kd : Int) : Prop where
  cg : CG wr G n ga gc down m w.heap.size WB TR NB EX (fun b => P0 b ∨ b = bX)
  row : Row wr EB m (fun _ => .int .i64 (-1))
  keep : Keep (fun _ => False) w wr
  box : wr.heap[bX]? = some (.cells #[.int .i64 (u : Int), .int .i64 (l : Int), .int .i64 ((l : Int) + 1), .int .u8 kd] 131)
  pe : P0 EB
  pw : ∀ b, b < w.heap.size → P0 b
  po : P0 WB ∧ P0 w.heap.size ∧ P0 TR
theorem L3.box {w wr : World} {G n : Nat} {ga : Option Addr} {gc : Nat} {down : Bool} {m WB TR NB EX EB : Nat} {P0 : Nat → Prop} (h : L3 w wr G n ga gc down m WB TR NB EX EB P0) (pe : P0 EB) (pw : ∀ b, b < w.heap.size → P0 b) (u l : Nat) (kd : Int) :
    L3b w (wr.alloc (.cells #[.int .i64 (u : Int), .int .i64 (l : Int), .int .i64 ((l : Int) + 1), .int .u8 kd] 131)) G n ga gc down m WB TR NB EX EB P0 wr.heap.size u l kd := by
  have k := Keep.alloc (fun _ => False) wr (.cells #[.int .i64 (u : Int), .int .i64 (l : Int), .int .i64 ((l : Int) + 1), .int .u8 kd] 131)
  exact ⟨h.cg.alloc _, h.row.keep (k.block EB (h.cg.lt EB pe) id), h.keep.trans k (fun _ q => q.elim), heap_alloc_new _ _, pe, pw, h.cg.own⟩
theorem L3b.step {w wr w' : World} {G n : Nat} {ga : Option Addr} {gc : Nat} {down : Bool} {m WB TR NB EX EX' EB : Nat} {P0 : Nat → Prop} {bX u l : Nat} {kd : Int} (h : L3b w wr G n ga gc down m WB TR NB EX EB P0 bX u l kd) (hc : CG w' G n ga gc down m w.heap.size WB TR NB EX' (fun b => P0 b ∨ b = bX)) (k : Keep (fun b => ¬ (P0 b ∨ b = bX)) wr w') : L3b w w' G n ga gc down m WB TR NB EX' EB P0 bX u l kd :=
  ⟨hc, h.row.keep (k.block EB (h.cg.lt EB (.inl h.pe)) (fun q => q (.inl h.pe))), h.keep.trans k (fun b q => .inr (by
    by_cases e : b < w.heap.size
    · exact absurd (.inl (h.pw b e)) q
    · omega)), k.at h.box (fun q => q (.inr rfl)), h.pe, h.pw, h.po⟩
theorem L3b.out {w wr : World} {G n : Nat} {ga : Option Addr} {gc : Nat} {down : Bool} {m WB TR NB EX EX' EB : Nat} {P0 : Nat → Prop} {bX u l : Nat} {kd : Int} (h : L3b w wr G n ga gc down m WB TR NB EX EB P0 bX u l kd) (hE : EX ≤ EX') : L3 w wr G n ga gc down m WB TR NB EX' EB P0 :=
  ⟨h.cg.less (fun _ q => .inl q) h.po hE, h.row, h.keep⟩
theorem L3b.cells {w wr : World} {G n : Nat} {ga : Option Addr} {gc : Nat} {down : Bool} {m WB TR NB EX EB : Nat} {P0 : Nat → Prop} {bX u l : Nat} {kd : Int} (h : L3b w wr G n ga gc down m WB TR NB EX EB P0 bX u l kd) : wr.cell? ⟨bX, 0, none⟩ = some (.int .i64 (u : Int)) ∧ wr.cell? ⟨bX, 1, none⟩ = some (.int .i64 (l : Int)) ∧ wr.cell? ⟨bX, 2, none⟩ = some (.int .i64 ((l : Int) + 1)) ∧ wr.cell? ⟨bX, 3, none⟩ = some (.int .u8 kd) :=
  ⟨cell_of _ _ 0 _ _ h.box, cell_of _ _ 1 _ _ h.box, cell_of _ _ 2 _ _ h.box, cell_of _ _ 3 _ _ h.box⟩
/-- Loop 4: the graph grows, backwards. -/
structure L4 (w : World) (P0 : Nat → Prop) (G n : Nat) (ga : Option Addr) (gc : Nat) (m WB TR NB EX bx bS SB NS sc : Nat) (wr : World) : Prop where
  cg : CG wr G n ga gc true m w.heap.size WB TR NB EX P0
  keep : Keep (fun _ => False) w wr
  nx : wr.heap[bx]? = some (.cells #[.pointer (some ⟨WB, 0, none⟩)] 133)
  bs : wr.heap[bS]? = some (.cells #[.slice (some ⟨SB, 0, none⟩) NS sc] 71)
theorem CG.others {wr w' : World} {G n : Nat} {ga : Option Addr} {gc : Nat} {down : Bool} {m RB WB TR NB EX : Nat} {P0 : Nat → Prop} (h : CG wr G n ga gc down m RB WB TR NB EX P0) {F : Nat → Prop} (k : Keep F wr w') (hF : ∀ b, F b → ¬ P0 b ∧ ∀ c t, wr.heap[b]? ≠ some (.cells c t)) : CG w' G n ga gc down m RB WB TR NB EX P0 := by
  obtain ⟨E, la, lc, aa, ac, ka, kc, last, src, dst, kd, hg, hEE, hP⟩ := h.g
  obtain ⟨nd, hs⟩ := h.st
  obtain ⟨cs, hcs⟩ := hs.ty
  refine ⟨⟨E, la, lc, aa, ac, ka, kc, last, src, dst, kd, hg.keep k (fun b q => ⟨fun r => ?_, fun r => ?_⟩), hEE, hP⟩, h.ws.keep k (fun q => (hF _ q).1 h.own.1) (fun q => (hF _ q).1 h.own.2.1), ⟨nd, hs.keep k (fun q => (hF _ q).1 h.own.2.2) (fun q => (hF _ q).2 _ _ hcs)⟩, h.nb, h.own, fun b hb => Nat.lt_of_lt_of_le (h.lt b hb) k.size⟩
  · obtain ⟨c, t, h1, _⟩ := hg.ty r
    exact (hF b q).2 _ _ h1
  · obtain ⟨c, hc⟩ := hg.vg.block_ty r
    exact (hF b q).2 _ _ hc
/-- What is no cells is not touched either. -/
theorem CG.ext {wr : World} {G n : Nat} {ga : Option Addr} {gc : Nat} {down : Bool} {m RB WB TR NB EX : Nat} {P0 : Nat → Prop} (h : CG wr G n ga gc down m RB WB TR NB EX P0) {Q : Nat → Prop} (hQ : ∀ b, Q b → b < wr.heap.size ∧ ¬ b = NB ∧ ∀ c t, (t = 201 ∨ t = 21 ∨ t = 96) → wr.heap[b]? ≠ some (.cells c t)) : CG wr G n ga gc down m RB WB TR NB EX (fun b => P0 b ∨ Q b) := by
  obtain ⟨E, la, lc, aa, ac, ka, kc, last, src, dst, kd, hg, hEE, hP⟩ := h.g
  refine ⟨⟨E, la, lc, aa, ac, ka, kc, last, src, dst, kd, hg, hEE, ?_⟩, h.ws, h.st, ?_, ⟨.inl h.own.1, .inl h.own.2.1, .inl h.own.2.2⟩, ?_⟩
  · rintro b (hb | hb) q
    · exact hP b hb q
    · obtain ⟨c, t, h1, h2⟩ := hg.ty q
      exact (hQ b hb).2.2 c t h2 h1
  · rintro (q | q)
    · exact h.nb q
    · exact (hQ _ q).2.1 rfl
  · rintro b (q | q)
    · exact h.lt b q
    · exact (hQ b q).1
theorem L4.keepF {w : World} {P0 : Nat → Prop} {G n : Nat} {ga : Option Addr} {gc : Nat} {m WB TR NB EX bx bS SB NS sc : Nat} {wr w' : World} (h : L4 w P0 G n ga gc m WB TR NB EX bx bS SB NS sc wr) (k : Keep (fun _ => False) wr w') : L4 w P0 G n ga gc m WB TR NB EX bx bS SB NS sc w' :=
  ⟨h.cg.keepF k, h.keep.trans k (fun _ q => .inl q), k.at h.nx id, k.at h.bs id⟩
theorem not_cells {o : Obj} (h : o.isCells = false) (c : Array Value) (t : TypeId) : o ≠ .cells c t := fun e => by subst e; simp [Obj.isCells] at h
/-- What is no cells. -/
def NC (W : World) (b : Nat) : Prop := ∃ o, W.heap[b]? = some o ∧ o.isCells = false
theorem L4.ext {w : World} {P0 : Nat → Prop} {G n : Nat} {ga : Option Addr} {gc : Nat} {m WB TR NB EX bx bS SB NS sc : Nat} {W : World} (h : L4 w P0 G n ga gc m WB TR NB EX bx bS SB NS sc W) : CG W G n ga gc true m w.heap.size WB TR NB EX (fun b => P0 b ∨ NC W b) := by
  obtain ⟨nd, hs⟩ := h.cg.st
  obtain ⟨cs, hcs⟩ := hs.ty
  refine h.cg.ext (fun b hb => ?_)
  obtain ⟨o, ho, hc⟩ := hb
  refine ⟨heap_lt ho, fun e => ?_, fun c t _ q => ?_⟩
  · rw [e, hcs] at ho
    exact not_cells hc _ _ (Option.some.inj ho).symm
  · rw [ho] at q
    exact not_cells hc _ _ (Option.some.inj q)
theorem L4.turn {w : World} {P0 : Nat → Prop} {G n : Nat} {ga : Option Addr} {gc : Nat} {m WB TR NB EX EX' EX2 bx bS SB NS sc : Nat} {W W' : World} (h : L4 w P0 G n ga gc m WB TR NB EX bx bS SB NS sc W) (hP : ∀ b, b ≤ w.heap.size ∨ b = bx ∨ b = bS → P0 b) (hSB : SB < w.heap.size) (hc : CG W' G n ga gc true m w.heap.size WB TR NB EX' (fun b => P0 b ∨ NC W b)) (k : Keep (fun b => ¬ (P0 b ∨ NC W b)) W W') (hE : EX' ≤ EX2) (B : Nat) :
    KeepsFrom B W W' ∧ Kp2 bS SB W W' ∧ L4 w P0 G n ga gc m WB TR NB EX2 bx bS SB NS sc W' := by
  have p1 := hP bS (.inr (.inr rfl))
  have p2 := hP SB (.inl (by omega))
  have p3 := hP bx (.inr (.inl rfl))
  refine ⟨⟨k.size, fun b o _ hb ho => k.at hb (fun q => q (.inr ⟨o, hb, ho⟩))⟩, ⟨k.block _ (h.cg.lt _ p1) (fun q => q (.inl p1)), k.block _ (h.cg.lt _ p2) (fun q => q (.inl p2))⟩, ⟨hc.less (fun _ q => .inl q) h.cg.own hE, h.keep.trans k (fun b q => .inr ?_), k.at h.nx (fun q => q (.inl p3)), k.at h.bs (fun q => q (.inl p1))⟩⟩
  by_cases e : b ≤ w.heap.size
  · exact absurd (.inl (hP b (.inl e))) q
  · omega
theorem grown_keep2 {W W' : World} {row : Option Nat} (h : W.grownBy W' row) : Keep (fun b => row = some b) W W' := ⟨h.os, h.tape, h.output, h.size, fun i hi hn => h.block i hi (fun e => hn e.symm)⟩
theorem L4.own {β : Type} (w : World) (P0 : Nat → Prop) (G n : Nat) (ga : Option Addr) (gc : Nat) (m WB TR NB : Nat) (EX : β → Nat) (bx bS SB NS sc B : Nat) (hB : ∀ b, P0 b → b < B) (hwB : w.heap.size ≤ B) : OwnFrom B (fun (s : β) W => L4 w P0 G n ga gc m WB TR NB (EX s) bx bS SB NS sc W) := by
  intro s W W' row hs hg hr
  have k := grown_keep2 hg
  have hF : ∀ b, row = some b → B ≤ b ∧ ∀ c t, W.heap[b]? ≠ some (.cells c t) := fun b e => by
    obtain ⟨h1, o, h2, h3⟩ := hr b e
    exact ⟨h1, fun c t q => by rw [h2] at q; exact not_cells h3 c t (Option.some.inj q)⟩
  exact ⟨hs.cg.others k (fun b e => ⟨fun p => by have := hB b p; have := (hF b e).1; omega, (hF b e).2⟩), hs.keep.trans k (fun b e => .inr (by have := (hF b e).1; omega)), k.at hs.nx (fun e => (hF _ e).2 _ _ hs.nx), k.at hs.bs (fun e => (hF _ e).2 _ _ hs.bs)⟩
/-- What conflictGraph answers. -/
def RetG (w w' : World) (n : Nat) (e : Ending) : Prop := ∃ G E la lc aa ac ka kc ga gc last src dst kd, e = .returned (.pointer (some ⟨G, 0, none⟩)) ∧ GB w' G n E la lc aa ac ka kc ga gc last src dst kd ∧ E ≤ 100000 ∧ w.heap.size ≤ G
set_option maxHeartbeats 8000000 in
set_option maxRecDepth 100000 in
theorem graph_any (SB NS sc n m : Nat) (su sl : Nat → Nat) (sk : Nat → Int) (w : World) (h : SP w SB NS n m su sl (fun i => sl i + 1) sk) (hn : n ≤ 5) (hm : m ≤ 3) (hNS : NS ≤ 2000) :
    Calls Ybaz.prog 16 #[.slice (some ⟨SB, 0, none⟩) NS sc, .int .i64 (n : Int), .int .i64 (m : Int)] w fun e w' => RetG w w' n e ∧ Keep (fun _ => False) w w' := by
  have HS : Hid _ := h
  have r86 := fun W => run_mkv 86 4 (.bool false) 1 1 Ybaz.underlying86 inf4 (by omega) W n (by omega)
  have r62 := fun W => run_mkv 62 3 (.int .i64 0) 1 8 Ybaz.underlying62 inf3 (by omega) W m (by omega)
  clear h
  refine (callsIn_wide (n := 5)).1 ?_
  refine callsIn_of_wp_marks Ybaz.func16 rfl trivial ?_ rfl
  refine wpIn_wide.2 ?_
  simp only [Ybaz.ntmps16, List.size_toArray, List.length_cons, List.length_nil, Nat.reduceAdd, Nat.reduceSub, Array.replicate_succ, Array.replicate_zero, List.push_toArray, List.append_toArray, List.nil_append, List.cons_append]
  go_wp2
  have HL0 : Hid (L1 w (w.alloc (.cells (mc (.bool false) 1 n) 4)) n) := ⟨Row.made1 (w.alloc (.cells (mc (.bool false) 1 n) 4)) w.heap.size n (.bool false) 4 rfl (heap_alloc_new _ _), by simp, Keep.alloc _ _ _⟩
  generalize w.alloc (.cells (mc (.bool false) 1 n) 4) = w1 at *
  go_loopg [23] NS (fun gk s wr => ∃ i : Nat, i ≤ NS ∧ s = .int .i64 (i : Int) ∧ gk = NS - i ∧ Hid (L1 w wr n))
  case atStart => exact ⟨0, Nat.zero_le _, rfl, rfl, HL0⟩
  case round =>
    clear HL0
    obtain ⟨i, hi, rfl, rfl, HL⟩ := hrel
    by_cases hlt : i < NS
    · have i1 : (i : Int) < (NS : Int) := by omega
      have i2 : (i : Int).toNat = i := by omega
      obtain ⟨e0, e1, e2, e3⟩ := (HS.out.keep HL.out.keep id).cell i hlt
      have hun := HS.out.hu i hlt
      have hk := HS.out.hk i hlt
      have kq : ((sk i) == 115) = false := by simp; omega
      have u1 : (su i : Int) < (n : Int) := by omega
      have u2 : (su i : Int).toNat = su i := by omega
      have hrl := HL.out.lt
      have er := HL.out.row.cell (su i) hun
      have fr := HL.out.row.free (su i)
      generalize hRB : w.heap.size = RB at *
      have kA := Keep.alloc (fun _ => False) wr (.cells #[.int .i64 (su i : Int), .int .i64 (sl i : Int), .int .i64 ((sl i + 1 : Nat) : Int), .int .u8 (sk i)] 131)
      have kB := Keep.setCell wr ⟨RB, su i, none⟩ (.bool false)
      have HL2 : Hid (L1 w (((wr.setCell ⟨RB, su i, none⟩ (.bool false)).alloc (.cells #[.int .i64 (su i : Int), .int .i64 (sl i : Int), .int .i64 ((sl i + 1 : Nat) : Int), .int .u8 (sk i)] 131)).drew) n) := by
        have r0 := HL.out.row
        rw [hRB] at r0
        have r1 := r0.set (su i) (.bool false) hun
        have k2 := Keep.alloc (fun _ => False) (wr.setCell ⟨RB, su i, none⟩ (.bool false)) (.cells #[.int .i64 (su i : Int), .int .i64 (sl i : Int), .int .i64 ((sl i + 1 : Nat) : Int), .int .u8 (sk i)] 131)
        have hs1 : (wr.setCell ⟨RB, su i, none⟩ (.bool false)).heap.size = wr.heap.size := by simp [World.setCell]
        refine ⟨?_, ?_, (((HL.out.keep.trans kB (fun b q => .inr (by simp only at q; omega))).trans k2 (fun _ q => q.elim))).drew⟩
        · rw [hRB]
          refine (r1.keep (w' := ((wr.setCell ⟨RB, su i, none⟩ (.bool false)).alloc (.cells #[.int .i64 (su i : Int), .int .i64 (sl i : Int), .int .i64 ((sl i + 1 : Nat) : Int), .int .u8 (sk i)] 131)).drew) (k2.block RB (by omega) id)).congr (fun j _ => ?_)
          split <;> rfl
        · rw [hRB]
          exact Nat.lt_of_lt_of_le (by omega) k2.size
      clear kA kB hk
      simp only [show ((sl i + 1 : Nat) : Int) = (sl i : Int) + 1 by omega] at HL2 e2
      go_upto_region 5 with fail
      go_region
      clear e0 e1 e2 e3 er fr
      generalize ((wr.setCell ⟨RB, su i, none⟩ (.bool false)).alloc (.cells #[.int .i64 (su i : Int), .int .i64 (sl i : Int), .int .i64 ((sl i : Int) + 1), .int .u8 (sk i)] 131)).drew = w3 at *
      go_wp2
      go_roundg (NS - (i + 1))
      case measure => omega
      case rel => exact ⟨i + 1, by omega, by go_num, rfl, HL2⟩
    · obtain rfl : i = NS := by omega
      have q1 : ¬ (i : Int) < (i : Int) := by omega
      have HNG := fun (_ : Unit) => (newGraph_any n wr hn).mono (fun e w' h => (h : NewG wr w' n e))
      obtain ⟨w2, rfl⟩ : ∃ w2, w2 = wr := ⟨_, rfl⟩
      go_upto_region 9 with (go_at_call 49; refine (HNG ()).mono ?_; rintro e w3 ⟨G, rfl, HG3⟩)
      clear HNG
      obtain ⟨la, lc, gt, gc, hb3, vl3, vg3, k3, hG3, hla3, hgt3⟩ := HG3
      have hs3 := k3.size
      have hlt3 := HL.out.lt
      have HGB : Hid (GB w3 G n 0 la lc none 0 none 0 gt gc (fun _ => -1) (fun _ => 0) (fun _ => 0) (fun _ => 0)) := by
        exact ⟨hb3, vl3, Vec.nil _ _ _ _, Vec.nil _ _ _ _, vg3, fun _ _ q => by simp at q, fun i _ => ⟨by omega, by omega⟩, fun i hi => by omega⟩
      have HPG : Hid (∀ b, gOwn G la none none b → w2.heap.size ≤ b ∧ b < w3.heap.size) := by
        intro b q
        refine ⟨?_, HGB.out.own_lt q⟩
        rcases q with q | q | q | q
        · omega
        · exact hla3 b q
        · simp at q
        · simp at q
      have HE0 : Hid (L2 w3 (w3.alloc (.cells (mc (.int .i64 0) 1 m) 3)) m 0) := ⟨⟨fun _ => .int .i64 0, Row.made1 _ _ _ _ 3 rfl (heap_alloc_new _ _), fun j hj => by omega⟩, by simp, Keep.alloc _ _ _⟩
      have HLR : Hid (Row w3 w.heap.size n (fun _ => .bool false) ∧ Keep (fun _ => False) w w3) := ⟨HL.out.row.keep (k3.block _ hlt3 id), HL.out.keep.trans k3 (fun _ q => q.elim)⟩
      clear hb3 vl3 vg3 k3 hla3 hgt3 HL
      go_wp2
      generalize w3.alloc (.cells (mc (.int .i64 0) 1 m) 3) = w4 at *
      go_loopg [48] m (fun gk s wr => ∃ i : Nat, i ≤ m ∧ s = .int .i64 (i : Int) ∧ gk = m - i ∧ Hid (L2 w3 wr m i))
      case atStart => exact ⟨0, Nat.zero_le _, rfl, rfl, HE0⟩
      case round =>
        clear HE0
        obtain ⟨j, hj, rfl, rfl, HE⟩ := hrel
        by_cases hlt : j < m
        · have j1 : (j : Int) < (m : Int) := by omega
          have j2 : (j : Int).toNat = j := by omega
          obtain ⟨f, hf, hf1⟩ := HE.out.row
          have ej := hf.cell j hlt
          have fj := hf.free j
          have kS := Keep.setCell wr ⟨w3.heap.size, j, none⟩ (.int .i64 (-1))
          have HE2 : Hid (L2 w3 (wr.setCell ⟨w3.heap.size, j, none⟩ (.int .i64 (-1))) m (j + 1)) := by
            refine ⟨⟨_, hf.set j _ hlt, fun x hx => ?_⟩, by have := HE.out.lt; simpa [World.setCell] using this, HE.out.keep.trans kS (fun b q => .inr (by simp only at q; omega))⟩
            by_cases e : x = j
            · simp [e]
            · simp only [e, if_false]; exact hf1 x (by omega)
          clear kS hf hf1
          go_wp2
          go_roundg (m - (j + 1))
          case measure => omega
          case rel => exact ⟨j + 1, by omega, by go_num, rfl, HE2⟩
        · obtain rfl : j = m := by omega
          have q2 : ¬ (j : Int) < (j : Int) := by omega
          obtain ⟨w5, rfl⟩ : ∃ w5, w5 = wr := ⟨_, rfl⟩
          have HR5 : Hid (Row w5 w3.heap.size j (fun _ => .int .i64 (-1))) := by
            obtain ⟨f, hf, hf1⟩ := HE.out.row
            exact hf.congr hf1
          have hlt5 := HE.out.lt
          have HG5 : Hid _ := HGB.out.keep HE.out.keep (fun _ q => q.elim)
          have HB5 : Hid (Row w5 w.heap.size n (fun _ => .bool false) ∧ Keep (fun _ => False) w w5) := ⟨HLR.out.1.keep (HE.out.keep.block _ (by omega) id), HLR.out.2.trans HE.out.keep (fun _ q => q.elim)⟩
          have HNW := fun (_ : Unit) => (newWriters_any G j w3.heap.size n w.heap.size false w5 hm hn HR5.out hlt5 HB5.out.1 (by omega)).mono (fun e w' h => (h : NewW G j n w.heap.size false w5 w' e))
          clear HE HGB HLR
          go_upto_region 15 with (go_at_call 50; refine (HNW ()).mono ?_; rintro e w6 ⟨WB, rfl, HW6⟩)
          obtain ⟨k6, TR, NB, hcg⟩ := CG.fresh (EX := 0) (P0 := fun b => b ≤ w.heap.size ∨ b = w3.heap.size) HG5.out (Nat.le_refl _) (fun b hb q => by
            have h1 := HPG.out b q
            omega) (fun b hb => by omega) (.inl (Nat.le_refl _)) HW6
          have HL3 : Hid (L3 w w6 G n gt gc false j WB TR NB 0 w3.heap.size (fun b => (b ≤ w.heap.size ∨ b = w3.heap.size) ∨ b = WB ∨ b = TR)) := ⟨hcg, HR5.out.keep (k6.block _ hlt5 id), HB5.out.2.trans k6 (fun _ q => q.elim)⟩
          clear hcg k6 HW6 HR5 HG5 HB5 HNW HPG r62 r86
          have hEB : w.heap.size < w3.heap.size := by omega
          clear hlt5 hs3 hG3 hlt3
          generalize w3.heap.size = EB at *
          go_wp2
          go_loopg [61] i (fun gk s wr => ∃ k : Nat, k ≤ i ∧ s = .int .i64 (k : Int) ∧ gk = i - k ∧ Hid (L3 w wr G n gt gc false j WB TR NB k EB (fun b => (b ≤ w.heap.size ∨ b = EB) ∨ b = WB ∨ b = TR)))
          case atStart => exact ⟨0, Nat.zero_le _, rfl, rfl, HL3⟩
          case round =>
            clear HL3
            obtain ⟨k, hk, rfl, rfl, HL⟩ := hrel
            by_cases hlt : k < i
            · have k1 : (k : Int) < (i : Int) := by omega
              have k2 : (k : Int).toNat = k := by omega
              obtain ⟨e0, e1, e2, e3⟩ := (HS.out.keep HL.out.keep id).cell k hlt
              have hun := HS.out.hu k hlt
              have hln := HS.out.hl k hlt
              have hkk := HS.out.hk k hlt
              simp only [show ((sl k + 1 : Nat) : Int) = (sl k : Int) + 1 by omega] at e2
              have kk1 : Hid (sk k = 114 ∨ sk k = 119) := hkk
              have HB : Hid _ := HL.out.box (.inl (.inr rfl)) (fun b hb => .inl (.inl (by omega))) (su k) (sl k) (sk k)
              clear hkk HL
              have hk5 : k ≤ 2000 := by omega
              go_upto_region 18 with fail
              clear e0 e1 e2 e3
              generalize wr.alloc (.cells #[.int .i64 (su k : Int), .int .i64 (sl k : Int), .int .i64 ((sl k : Int) + 1), .int .u8 (sk k)] 131) = w7 at *
              generalize wr.heap.size = bO at *
              obtain ⟨e0, e1, e2, e3⟩ := HB.out.cells
              have HLK := fun (_ : Unit) (d : Int) (hd : 1 ≤ d ∧ d ≤ 63) => HB.out.cg.link hn hm (by omega) (su k) (sl k) d hun hln hd
              by_cases hw : sk k = 119
              · have HBo : Hid _ := HB
                go_upto_region 22 with (go_at_call 51; refine (HLK () 1 (by decide)).mono ?_; rintro e w8 ⟨rfl, HC8, HK8⟩)
                clear e0 e1 e2 e3 HLK
                have HB8 : Hid _ := HBo.out.step HC8.out HK8.out
                obtain ⟨e0, e1, e2, e3⟩ := HB8.out.cells
                have HTK := fun (_ : Unit) => HB8.out.cg.take hm (su k) (sl k) hun hln
                clear HC8 HK8 HBo HB
                go_wp2_with (go_at_call 52; refine (HTK ()).mono ?_; rintro e w9 ⟨rfl, HC9, HK9⟩)
                have HL9 : Hid _ := (HB8.out.step HC9.out HK9.out).out (Nat.le_refl _)
                go_roundg (i - (k + 1))
                case measure => omega
                case rel => exact ⟨k + 1, by omega, by go_num, rfl, HL9⟩
              · have hr : sk k = 114 := by have := kk1.out; omega
                have HBo : Hid _ := HB
                clear HB
                go_wp2_with (go_at_call 51; refine (HLK () 2 (by decide)).mono ?_; rintro e w8 ⟨rfl, HC8, HK8⟩)
                have HL9 : Hid _ := (HBo.out.step HC8.out HK8.out).out (Nat.le_refl _)
                go_roundg (i - (k + 1))
                case measure => omega
                case rel => exact ⟨k + 1, by omega, by go_num, rfl, HL9⟩
            · obtain rfl : k = i := by omega
              have q3 : ¬ (k : Int) < (k : Int) := by omega
              obtain ⟨w7, rfl⟩ : ∃ w7, w7 = wr := ⟨_, rfl⟩
              obtain ⟨E, la2, lc2, aa2, ac2, ka2, kc2, last2, src2, dst2, kd2, hg7, hE7, hP7⟩ := HL.out.cg.g
              have HNW := fun (_ : Unit) => (newWriters_any G j EB n w.heap.size true w7 hm hn HL.out.row (HL.out.cg.lt EB (.inl (.inr rfl))) HL.out.cg.ws.row HL.out.cg.ws.lt).mono (fun e w' h => (h : NewW G j n w.heap.size true w7 w' e))
              have HG7 : Hid _ := hg7
              have HP7 : Hid _ := hP7
              clear hg7 hP7
              go_upto_region 27 with (go_at_call 50; refine (HNW ()).mono ?_; rintro e w8 ⟨WB2, rfl, HW8⟩)
              clear HNW
              obtain ⟨k8, TR2, NB2, hcg⟩ := CG.fresh (EX := k) (P0 := fun b => b ≤ w.heap.size ∨ b = EB) HG7.out hE7 (fun b hb q => HP7.out b (.inl hb) q) (fun b hb => HL.out.cg.lt b (.inl hb)) (.inl (Nat.le_refl _)) HW8
              have HL8 : Hid (L4 w (fun b => ((((b ≤ w.heap.size ∨ b = EB) ∨ b = WB2 ∨ b = TR2) ∨ b = w8.heap.size) ∨ b = w8.heap.size + 1)) G n gt gc j WB2 TR2 NB2 k w8.heap.size (w8.heap.size + 1) SB k sc ((w8.alloc (.cells #[.pointer (some ⟨WB2, 0, none⟩)] 133)).alloc (.cells #[.slice (some ⟨SB, 0, none⟩) k sc] 71))) := by
                have ka := Keep.alloc (fun _ => False) w8 (.cells #[.pointer (some ⟨WB2, 0, none⟩)] 133)
                have kb := Keep.alloc (fun _ => False) (w8.alloc (.cells #[.pointer (some ⟨WB2, 0, none⟩)] 133)) (.cells #[.slice (some ⟨SB, 0, none⟩) k sc] 71)
                have h2 := (hcg.alloc (.cells #[.pointer (some ⟨WB2, 0, none⟩)] 133)).alloc (.cells #[.slice (some ⟨SB, 0, none⟩) k sc] 71)
                have hsz : (w8.alloc (.cells #[.pointer (some ⟨WB2, 0, none⟩)] 133)).heap.size = w8.heap.size + 1 := World.size_alloc _ _
                rw [hsz] at h2
                refine ⟨h2, ((HL.out.keep.trans k8 (fun _ q => q.elim)).trans ka (fun _ q => q.elim)).trans kb (fun _ q => q.elim), kb.at (heap_alloc_new _ _) id, ?_⟩
                have := heap_alloc_new (w8.alloc (.cells #[.pointer (some ⟨WB2, 0, none⟩)] 133)) (.cells #[.slice (some ⟨SB, 0, none⟩) k sc] 71)
                rwa [hsz] at this
              have HBW := fun (_ : Unit) (W : World) => backward53 (some ⟨SB, 0, none⟩) k sc W
              clear HW8 hcg k8 HG7 HP7 HL hE7
              go_wp2_with (go_at_call 53; refine (HBW () _).mono ?_; rintro e w9 ⟨rfl, rfl⟩)
              clear HBW
              have hbx : w8.heap.size + 1 + 1 = ((w8.alloc (.cells #[.pointer (some ⟨WB2, 0, none⟩)] 133)).alloc (.cells #[.slice (some ⟨SB, 0, none⟩) k sc] 71)).heap.size := by simp
              obtain ⟨P0, hP0⟩ : ∃ P0 : Nat → Prop, P0 = fun b => ((((b ≤ w.heap.size ∨ b = EB) ∨ b = WB2 ∨ b = TR2) ∨ b = w8.heap.size) ∨ b = w8.heap.size + 1) := ⟨_, rfl⟩
              rw [← hP0] at HL8
              have HP0 : Hid (∀ b, b ≤ w.heap.size ∨ b = w8.heap.size ∨ b = w8.heap.size + 1 → P0 b) := by
                intro b hb
                rw [hP0]
                show (((b ≤ w.heap.size ∨ b = EB) ∨ b = WB2 ∨ b = TR2) ∨ b = w8.heap.size) ∨ b = w8.heap.size + 1
                omega
              clear hP0
              generalize ((w8.alloc (.cells #[.pointer (some ⟨WB2, 0, none⟩)] 133)).alloc (.cells #[.slice (some ⟨SB, 0, none⟩) k sc] 71)) = w9 at *
              generalize w8.heap.size = bx at *
              have hB := HL8.out.cg.lt
              have hw9 := HL8.out.keep.size
              have hSP := HS.out.keep HL8.out.keep id
              refine wp_range_boxed 114 #[.pointer (some ⟨bx + 1, 0, none⟩)] rfl (cf Ybaz.func114 (by kernel_rfl) (by kernel_rfl)) (back114_stops 4 (by decide) (bx + 1) SB k sc su sl sk hNS w9 (by omega) hSP.lt (cell_of _ _ 0 _ _ HL8.out.bs) (fun q hq => by
                have := hSP.cell q hq
                simp only [show ((sl q + 1 : Nat) : Int) = (sl q : Int) + 1 by omega] at this
                exact this)) (fun h k => h.trans k) ?hKb (fun _ => rfl) (fun (pre : List (Fin k)) W => L4 w P0 G n gt gc j WB2 TR2 NB2 (k + pre.length) bx (bx + 1) SB k sc W ∧ pre.length ≤ k) (OwnFrom.and (L4.own w P0 G n gt gc j WB2 TR2 NB2 (fun (pre : List (Fin k)) => k + pre.length) bx (bx + 1) SB k sc _ hB hw9) (ownFrom_pure _ _)) ⟨HL8.out, Nat.zero_le _⟩ 18
                (fun (x : Fin k) b W => W.heap[b]? = some (.cells #[.int .i64 (su x.1 : Int), .int .i64 (sl x.1 : Int), .int .i64 ((sl x.1 : Int) + 1), .int .u8 (sk x.1)] 131)) ?hBx ?assign ?body ?done
              case hKb =>
                intro W l o o' hl ho hc hw
                exact ⟨World.putObj_heap_other (by omega), World.putObj_heap_other (by have := hSP.lt; omega)⟩
              case hBx =>
                intro x b s W W' row hs hg hr
                exact (grown_keep2 hg).at hs (fun e => by
                  obtain ⟨_, o, h2, h3⟩ := hr b e
                  rw [hs] at h2
                  exact not_cells h3 _ _ (Option.some.inj h2).symm)
              case assign =>
                intro l pre x W K ⟨hi, hpl⟩ hK
                have ka := Keep.alloc (fun _ => False) W (.cells #[.int .i64 (su x.1 : Int), .int .i64 (sl x.1 : Int), .int .i64 ((sl x.1 : Int) + 1), .int .u8 (sk x.1)] 131)
                have h1 := hK W.heap.size _ ((KeepsOthers.alloc W (.cells #[.int .i64 (su x.1 : Int), .int .i64 (sl x.1 : Int), .int .i64 ((sl x.1 : Int) + 1), .int .u8 (sk x.1)] 131)).from _) ⟨ka.block _ (heap_lt hi.bs) id, ka.block _ (by have := hi.keep.size; have := HS.out.lt; omega) id⟩ ⟨L4.keepF hi ka, hpl⟩ (heap_alloc_new _ _)
                clear hK hi ka
                simp [laidT, stv] at h1 ⊢
                gi_wp2
                exact h1
              case body =>
                intro l pre x b W ⟨hi, hpl⟩ hb hlt
                have hx := x.2
                have e0 : W.cell? ⟨b, 0, none⟩ = some (.int .i64 (su x.1 : Int)) := cell_of _ _ 0 _ _ hb
                have e1 : W.cell? ⟨b, 1, none⟩ = some (.int .i64 (sl x.1 : Int)) := cell_of _ _ 1 _ _ hb
                have e2 : W.cell? ⟨b, 2, none⟩ = some (.int .i64 ((sl x.1 : Int) + 1)) := cell_of _ _ 2 _ _ hb
                have e3 : W.cell? ⟨b, 3, none⟩ = some (.int .u8 (sk x.1)) := cell_of _ _ 3 _ _ hb
                have en : W.cell? ⟨bx, 0, none⟩ = some (.pointer (some ⟨WB2, 0, none⟩)) := cell_of _ _ 0 _ _ hi.nx
                have hun := HS.out.hu x.1 hx
                have hln := HS.out.hl x.1 hx
                have hkk := HS.out.hk x.1 hx
                have HI : Hid _ := hi
                have HSL := HS.out.lt
                clear hi hb
                simp [laidT]
                rcases hkk with hkk | hkk
                · have HLK := fun (_ : Unit) => HI.out.ext.link hn hm (by omega) (su x.1) (sl x.1) 4 hun hln (by decide)
                  rw [hkk] at e3
                  gi_wp2_with (refine ⟨trivial, ?_⟩; gi_at_call 51; refine (CallsIn.inRound l (callsIn_wide.2 (HLK ()))).mono ?_; rintro e w8 ⟨rfl, HC8, HK8⟩)
                  obtain ⟨r1, r2, r3⟩ := HI.out.turn (EX2 := k + (pre ++ [x]).length) HP0.out HSL HC8.out HK8.out (by simp; omega) w9.heap.size
                  exact ⟨r1, r2, r3, by simp; omega⟩
                · have HTK := fun (_ : Unit) => HI.out.ext.take hm (su x.1) (sl x.1) hun hln
                  rw [hkk] at e3
                  gi_wp2_with (refine ⟨trivial, ?_⟩; gi_at_call 52; refine (CallsIn.inRound l (callsIn_wide.2 (HTK ()))).mono ?_; rintro e w8 ⟨rfl, HC8, HK8⟩)
                  obtain ⟨r1, r2, r3⟩ := HI.out.turn (EX2 := k + (pre ++ [x]).length) HP0.out HSL HC8.out HK8.out (by simp) w9.heap.size
                  exact ⟨r1, r2, r3, by simp; omega⟩
              case done =>
                rintro D xs W hD ⟨hi, hpl⟩ hK
                have hi2 := (L4.own w P0 G n gt gc j WB2 TR2 NB2 (fun (pre : List (Fin k)) => k + pre.length) bx (bx + 1) SB k sc _ hB hw9).putObj (.deferred none) hi hD hK rfl
                have HI2 : Hid _ := hi2
                clear hi hi2
                go_wp2
                refine ⟨by simp, .inl ⟨_, _, rfl, run_takeDeferred hK, ?_⟩⟩
                refine ⟨_, results_tmp rfl _ _ _, ?_⟩
                obtain ⟨E3, la3, lc3, aa3, ac3, ka3, kc3, last3, src3, dst3, kd3, hg3, hE3, hP3⟩ := HI2.out.cg.g
                have hG : w.heap.size ≤ G := by
                  by_cases q : w.heap.size ≤ G
                  · exact q
                  · exact absurd (.inl rfl) (hP3 G (HP0.out G (.inl (by omega))))
                exact ⟨⟨G, E3, la3, lc3, aa3, ac3, ka3, kc3, gt, gc, last3, src3, dst3, kd3, rfl, hg3, by omega, hG⟩, HI2.out.keep⟩
end Go.Proofs.YbulkdvbsGreat

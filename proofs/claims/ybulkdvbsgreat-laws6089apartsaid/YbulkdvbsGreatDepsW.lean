/-
  conflictDependencies$1, walked.
-/
import Derived.Test.YbulkdvbsGreatDeps
namespace Go.Proofs.YbulkdvbsGreat
open Go.RowKit Go.Shelf

/-- One number more behind the touches. -/
theorem DS.tpush {n keys p1 p2 p3 p4 p5 p6 SB NS sc : Nat} {su sl : Nat → Nat} {sk : Nat → Int} {q : Option Nat} {w w' : World} {D : Nat → Prop} {ta : Option Addr} {tl tc : Nat} {tv : Nat → Nat} {wa : Option Addr} {wl wc : Nat} {wv : Nat → Nat} (h : DS n keys p1 p2 p3 p4 p5 p6 SB NS sc su sl sk q w D ta tl tc tv wa wl wc wv) (hp : p3 ≠ p4 ∧ p1 ≠ SB ∧ p3 ≠ SB ∧ p4 ≠ SB) (i : Nat) (hi : i < NS) (hl : tl < NS) {g cap : Nat}
    (t1 : w'.heap[p3]? = some (.cells #[.slice (some ⟨g, 0, none⟩) (tl + 1) cap] 95)) (t2 : Vec w' 21 1 (some ⟨g, 0, none⟩) (tl + 1) cap (push tl (fun i _ => .int .i32 (tv i : Int)) (fun _ => .int .i32 (i : Int)))) (t3 : Keep (fun b => b = p3 ∨ ta = some ⟨b, 0, none⟩) w w') (t5 : ta = some ⟨g, 0, none⟩ ∨ w.heap.size ≤ g) (hD : w.heap.size ≤ g → D g) :
    DS n keys p1 p2 p3 p4 p5 p6 SB NS sc su sl sk q w' D (some ⟨g, 0, none⟩) (tl + 1) cap (fun j => if j = tl then i else tv j) wa wl wc wv := by
  have o : ∀ {b : Nat} {c : Array Value} {t : TypeId}, w.heap[b]? = some (.cells c t) → t ≠ 21 → b ≠ p3 → ¬ (b = p3 ∨ ta = some ⟨b, 0, none⟩) := by
    rintro b c t hb ht hne (e | e)
    · exact hne e
    · exact h.vt.off hb (fun q => ht q.symm) e
  have x1 : p1 ≠ p3 := ne_of_types h.b1 h.b3 (by decide)
  have x2 : p2 ≠ p3 := ne_of_types h.b2 h.b3 (by decide)
  have x5 : p5 ≠ p3 := ne_of_types h.b5 h.b3 (by decide)
  have x6 : p6 ≠ p3 := ne_of_types h.b6 h.b3 (by decide)
  have hgSB : g ≠ SB := by
    rcases t5 with e | e
    · exact h.ns.1 g e
    · have := h.sp.lt; omega
  have hne : ¬ wa = some ⟨g, 0, none⟩ := by
    rcases t5 with e | e
    · exact h.ne g e
    · intro r; have := h.vw.lt r; omega
  refine ⟨t3.at h.b1 (o h.b1 (by decide) x1), t3.at h.b2 (o h.b2 (by decide) x2), t1, t3.at h.b4 (o h.b4 (by decide) (Ne.symm hp.1)), t3.at h.b5 (o h.b5 (by decide) x5), t3.at h.b6 (o h.b6 (by decide) x6), h.sp.keep t3 ?_, t2.congr (by decide) ?_, h.vw.keep t3 ?_, ?_, h.hw, ⟨by omega, h.lt.2⟩, ?_, h.d, ?_, h.dw, ⟨?_, h.ns.2⟩⟩
  · rintro (e | e)
    · exact hp.2.2.1 e.symm
    · exact h.ns.1 SB e rfl
  · intro j c _ _
    by_cases e : j = tl
    · simp [push, e]
    · simp [push, e]
  · rintro b hb (e | e)
    · rw [e] at hb; exact h.vw.off h.b3 (by decide) hb
    · exact h.ne b e hb
  · intro j hj
    by_cases e : j = tl
    · simp only [e, if_true]; exact hi
    · simp only [e, if_false]; exact h.ht j (by omega)
  · intro b e
    simp only [Option.some.injEq, Addr.mk.injEq, and_true] at e
    subst e
    exact hne
  · intro b e
    simp only [Option.some.injEq, Addr.mk.injEq, and_true] at e
    subst e
    rcases t5 with r | r
    · exact h.dt _ r
    · exact hD r
  · intro b e
    simp only [Option.some.injEq, Addr.mk.injEq, and_true] at e
    subst e
    exact hgSB
/-- One number more behind the writes. -/
theorem DS.wpush {n keys p1 p2 p3 p4 p5 p6 SB NS sc : Nat} {su sl : Nat → Nat} {sk : Nat → Int} {q : Option Nat} {w w' : World} {D : Nat → Prop} {ta : Option Addr} {tl tc : Nat} {tv : Nat → Nat} {wa : Option Addr} {wl wc : Nat} {wv : Nat → Nat} (h : DS n keys p1 p2 p3 p4 p5 p6 SB NS sc su sl sk q w D ta tl tc tv wa wl wc wv) (hp : p3 ≠ p4 ∧ p1 ≠ SB ∧ p3 ≠ SB ∧ p4 ≠ SB) {g cap wl' : Nat} {wv' : Nat → Nat} (hwv : ∀ i, i < wl' → wv' i < NS) (hl : wl' ≤ NS)
    (t1 : w'.heap[p4]? = some (.cells #[.slice (some ⟨g, 0, none⟩) wl' cap] 95)) (t2 : Vec w' 21 1 (some ⟨g, 0, none⟩) wl' cap (fun i _ => .int .i32 (wv' i : Int))) (t3 : Keep (fun b => b = p4 ∨ wa = some ⟨b, 0, none⟩) w w') (t5 : wa = some ⟨g, 0, none⟩ ∨ w.heap.size ≤ g) (hD : w.heap.size ≤ g → D g) :
    DS n keys p1 p2 p3 p4 p5 p6 SB NS sc su sl sk q w' D ta tl tc tv (some ⟨g, 0, none⟩) wl' cap wv' := by
  have o : ∀ {b : Nat} {c : Array Value} {t : TypeId}, w.heap[b]? = some (.cells c t) → t ≠ 21 → b ≠ p4 → ¬ (b = p4 ∨ wa = some ⟨b, 0, none⟩) := by
    rintro b c t hb ht hne (e | e)
    · exact hne e
    · exact h.vw.off hb (fun q => ht q.symm) e
  have x1 : p1 ≠ p4 := ne_of_types h.b1 h.b4 (by decide)
  have x2 : p2 ≠ p4 := ne_of_types h.b2 h.b4 (by decide)
  have x5 : p5 ≠ p4 := ne_of_types h.b5 h.b4 (by decide)
  have x6 : p6 ≠ p4 := ne_of_types h.b6 h.b4 (by decide)
  have hgSB : g ≠ SB := by
    rcases t5 with e | e
    · exact h.ns.2 g e
    · have := h.sp.lt; omega
  refine ⟨t3.at h.b1 (o h.b1 (by decide) x1), t3.at h.b2 (o h.b2 (by decide) x2), t3.at h.b3 (o h.b3 (by decide) hp.1), t1, t3.at h.b5 (o h.b5 (by decide) x5), t3.at h.b6 (o h.b6 (by decide) x6), h.sp.keep t3 ?_, h.vt.keep t3 ?_, t2, h.ht, hwv, ⟨h.lt.1, hl⟩, ?_, h.d, h.dt, ?_, ⟨h.ns.1, ?_⟩⟩
  · rintro (e | e)
    · exact hp.2.2.2 e.symm
    · exact h.ns.2 SB e rfl
  · rintro b hb (e | e)
    · rw [e] at hb; exact h.vt.off h.b4 (by decide) hb
    · exact h.ne b hb e
  · intro b e e'
    simp only [Option.some.injEq, Addr.mk.injEq, and_true] at e'
    subst e'
    rcases t5 with r | r
    · exact h.ne g e r
    · have := h.vt.lt e; omega
  · intro b e
    simp only [Option.some.injEq, Addr.mk.injEq, and_true] at e
    subst e
    rcases t5 with r | r
    · exact h.dw _ r
    · exact hD r
  · intro b e
    simp only [Option.some.injEq, Addr.mk.injEq, and_true] at e
    subst e
    exact hgSB
/-- The group is laid. -/
theorem DS.p1 {n keys p1 p2 p3 p4 p5 p6 SB NS sc : Nat} {su sl : Nat → Nat} {sk : Nat → Int} {q : Option Nat} {w : World} {D : Nat → Prop} {ta : Option Addr} {tl tc : Nat} {tv : Nat → Nat} {wa : Option Addr} {wl wc : Nat} {wv : Nat → Nat} (h : DS n keys p1 p2 p3 p4 p5 p6 SB NS sc su sl sk q w D ta tl tc tv wa wl wc wv) (hp : p3 ≠ p4 ∧ p1 ≠ SB ∧ p3 ≠ SB ∧ p4 ≠ SB) (GR : Nat) :
    DS n keys p1 p2 p3 p4 p5 p6 SB NS sc su sl sk (some GR) (w.setCell ⟨p1, 0, none⟩ (.pointer (some ⟨GR, 0, none⟩))) D ta tl tc tv wa wl wc wv := by
  have k := Keep.setCell w ⟨p1, 0, none⟩ (.pointer (some ⟨GR, 0, none⟩))
  have x2 : ¬ p2 = p1 := ne_of_types h.b2 h.b1 (by decide)
  have x3 : ¬ p3 = p1 := ne_of_types h.b3 h.b1 (by decide)
  have x4 : ¬ p4 = p1 := ne_of_types h.b4 h.b1 (by decide)
  have x5 : ¬ p5 = p1 := ne_of_types h.b5 h.b1 (by decide)
  have x6 : ¬ p6 = p1 := ne_of_types h.b6 h.b1 (by decide)
  refine ⟨by have := heap_set w p1 0 (.pointer (some ⟨GR, 0, none⟩)) _ _ h.b1; simpa [gAddr] using this, k.at h.b2 x2, k.at h.b3 x3, k.at h.b4 x4, k.at h.b5 x5, k.at h.b6 x6, h.sp.keep k (fun e => hp.2.1 e.symm), h.vt.keep k (fun b hb e => ?_), h.vw.keep k (fun b hb e => ?_), h.ht, h.hw, h.lt, h.ne, h.d, h.dt, h.dw, h.ns⟩
  · have e' : b = p1 := e
    rw [e'] at hb; exact h.vt.off h.b1 (by decide) hb
  · have e' : b = p1 := e
    rw [e'] at hb; exact h.vw.off h.b1 (by decide) hb
/-- Touches and writes emptied. -/
theorem DS.empty {n keys p1 p2 p3 p4 p5 p6 SB NS sc : Nat} {su sl : Nat → Nat} {sk : Nat → Int} {q : Option Nat} {w : World} {D : Nat → Prop} {ta : Option Addr} {tl tc : Nat} {tv : Nat → Nat} {wa : Option Addr} {wl wc : Nat} {wv : Nat → Nat} (h : DS n keys p1 p2 p3 p4 p5 p6 SB NS sc su sl sk q w D ta tl tc tv wa wl wc wv) (hp : p3 ≠ p4 ∧ p1 ≠ SB ∧ p3 ≠ SB ∧ p4 ≠ SB) :
    DS n keys p1 p2 p3 p4 p5 p6 SB NS sc su sl sk q (((w.setCell ⟨p3, 0, none⟩ (.slice ta 0 tc)).setCell ⟨p4, 0, none⟩ (.slice wa 0 wc)).drew) D ta 0 tc tv wa 0 wc wv := by
  have k3 := Keep.setCell w ⟨p3, 0, none⟩ (.slice ta 0 tc)
  have k4 := Keep.setCell (w.setCell ⟨p3, 0, none⟩ (.slice ta 0 tc)) ⟨p4, 0, none⟩ (.slice wa 0 wc)
  have k : Keep (fun b => b = p3 ∨ b = p4) w (((w.setCell ⟨p3, 0, none⟩ (.slice ta 0 tc)).setCell ⟨p4, 0, none⟩ (.slice wa 0 wc)).drew) := ((k3.wide (fun b e => .inl e)).trans k4 (fun b e => .inl (.inr e))).drew
  have o : ∀ {b : Nat} {c : Array Value} {t : TypeId}, w.heap[b]? = some (.cells c t) → t ≠ 95 → ¬ (b = p3 ∨ b = p4) := by
    rintro b c t hb ht (e | e)
    · exact ne_of_types hb h.b3 ht e
    · exact ne_of_types hb h.b4 ht e
  have b3' : (w.setCell ⟨p3, 0, none⟩ (.slice ta 0 tc)).heap[p3]? = some (.cells #[.slice ta 0 tc] 95) := by have := heap_set w p3 0 (.slice ta 0 tc) _ _ h.b3; simpa using this
  have b4' := k3.at h.b4 (show ¬ p4 = p3 from Ne.symm hp.1)
  have b4s : ((w.setCell ⟨p3, 0, none⟩ (.slice ta 0 tc)).setCell ⟨p4, 0, none⟩ (.slice wa 0 wc)).heap[p4]? = some (.cells #[.slice wa 0 wc] 95) := by have := heap_set _ p4 0 (.slice wa 0 wc) _ _ b4'; simpa using this
  refine ⟨k.at h.b1 (o h.b1 (by decide)), k.at h.b2 (o h.b2 (by decide)), k4.at b3' (show ¬ p3 = p4 from hp.1), b4s, k.at h.b5 (o h.b5 (by decide)), k.at h.b6 (o h.b6 (by decide)), h.sp.keep k ?_, h.vt.zero.keep k ?_, h.vw.zero.keep k ?_, fun i hi => by omega, fun i hi => by omega, ⟨Nat.zero_le _, Nat.zero_le _⟩, h.ne, h.d, h.dt, h.dw, h.ns⟩
  · rintro (e | e)
    · exact hp.2.2.1 e.symm
    · exact hp.2.2.2 e.symm
  · rintro b hb (e | e)
    · rw [e] at hb; exact h.vt.off h.b3 (by decide) hb
    · rw [e] at hb; exact h.vt.off h.b4 (by decide) hb
  · rintro b hb (e | e)
    · rw [e] at hb; exact h.vw.off h.b3 (by decide) hb
    · rw [e] at hb; exact h.vw.off h.b4 (by decide) hb
/-- Part one under way: from w on only D and new blocks have turned; the group's box. -/
structure PA (w : World) (D : Nat → Prop) (GR n bG : Nat) (wr : World) : Prop where
  k : Keep D w wr
  g : wr.heap[bG]? = some (.cells #[.slice (some ⟨GR, 0, none⟩) n n] 95)
/-- Part two under way: the rows of what has been listed; D1 the blocks of deps by now. -/
structure DL (YI : World → (Nat → Prop) → Prop) (w : World) (D : Nat → Prop) (GR bG LW LR : Nat) (n keys p1 p2 p3 p4 p5 p6 SB NS sc : Nat) (su sl : Nat → Nat) (sk : Nat → Int) (ta : Option Addr) (tl tc : Nat) (tv : Nat → Nat) (wa : Option Addr) (wl wc : Nat) (wv : Nat → Nat) (wr : World) (D1 : Nat → Prop) : Prop where
  ds : DS n keys p1 p2 p3 p4 p5 p6 SB NS sc su sl sk (some GR) wr D1 ta tl tc tv wa wl wc wv
  yi : YI wr D1
  g : wr.heap[bG]? = some (.cells #[.slice (some ⟨GR, 0, none⟩) n n] 95)
  rw1 : ∃ f : Nat → Int, Row wr LW n (fun i => .int .i32 (f i))
  rw2 : ∃ f : Nat → Int, Row wr LR n (fun i => .int .i32 (f i))
  ne : LW ≠ LR ∧ (∀ b, wa = some ⟨b, 0, none⟩ → b ≠ LW ∧ b ≠ LR) ∧ (∀ b, ta = some ⟨b, 0, none⟩ → b ≠ LW ∧ b ≠ LR) ∧ SB ≠ LW ∧ SB ≠ LR
  d : D1 bG ∧ D1 LW ∧ D1 LR
  tyl : (∃ c, wr.heap[LW]? = some (.cells c 21)) ∧ ∃ c, wr.heap[LR]? = some (.cells c 21)
  up : ∀ b, D b → D1 b
  dn : ∀ b, D1 b → D b ∨ w.heap.size ≤ b
  lt : ∀ b, D1 b → b < wr.heap.size
/-- Between the parts: the group's box; D1 the blocks of deps by now. -/
structure DM (w : World) (D : Nat → Prop) (GR n bG : Nat) (wr : World) (D1 : Nat → Prop) : Prop where
  g : wr.heap[bG]? = some (.cells #[.slice (some ⟨GR, 0, none⟩) n n] 95)
  dg : D1 bG
  up : ∀ b, D b → D1 b
  dn : ∀ b, D1 b → D b ∨ w.heap.size ≤ b
  lt : ∀ b, D1 b → b < wr.heap.size
theorem DL.start {YI : World → (Nat → Prop) → Prop} (hst : ∀ w w' D D', YI w D → Keep D w w' → (∀ b, D' b → D b ∨ (w.heap.size ≤ b ∧ b < w'.heap.size)) → YI w' D') {w : World} {D : Nat → Prop} {GR bG : Nat} {n keys p1 p2 p3 p4 p5 p6 SB NS sc : Nat} {su sl : Nat → Nat} {sk : Nat → Int} {ta : Option Addr} {tl tc : Nat} {tv : Nat → Nat} {wa : Option Addr} {wl wc : Nat} {wv : Nat → Nat} {w2 : World} {D1 : Nat → Prop} (h : DS n keys p1 p2 p3 p4 p5 p6 SB NS sc su sl sk (some GR) w2 D1 ta tl tc tv wa wl wc wv) (hy : YI w2 D1) (hm : DM w D GR n bG w2 D1) (hw : w.heap.size ≤ w2.heap.size) (LW LR : Nat) (hL : LW = w2.heap.size ∧ LR = w2.heap.size + 1 ∨ LW = w2.heap.size + 1 ∧ LR = w2.heap.size) :
    DL YI w D GR bG LW LR n keys p1 p2 p3 p4 p5 p6 SB NS sc su sl sk ta tl tc tv wa wl wc wv (((w2.alloc (.cells (mc (.int .i32 0) 1 n) 21)).alloc (.cells (mc (.int .i32 0) 1 n) 21)).drew) (fun b => D1 b ∨ b = LW ∨ b = LR) := by
  have k1 := Keep.alloc (fun _ => False) w2 (.cells (mc (.int .i32 0) 1 n) 21)
  have k2 := Keep.alloc (fun _ => False) (w2.alloc (.cells (mc (.int .i32 0) 1 n) 21)) (.cells (mc (.int .i32 0) 1 n) 21)
  have k := (k1.trans k2 (fun _ q => q.elim)).drew
  have e1 : (w2.alloc (.cells (mc (.int .i32 0) 1 n) 21)).heap.size = w2.heap.size + 1 := World.size_alloc _ _
  have b1 : (((w2.alloc (.cells (mc (.int .i32 0) 1 n) 21)).alloc (.cells (mc (.int .i32 0) 1 n) 21)).drew).heap[w2.heap.size]? = some (.cells (mc (.int .i32 0) 1 n) 21) := k2.at (heap_alloc_new _ _) id
  have b2 : (((w2.alloc (.cells (mc (.int .i32 0) 1 n) 21)).alloc (.cells (mc (.int .i32 0) 1 n) 21)).drew).heap[w2.heap.size + 1]? = some (.cells (mc (.int .i32 0) 1 n) 21) := by
    have := heap_alloc_new (w2.alloc (.cells (mc (.int .i32 0) 1 n) 21)) (.cells (mc (.int .i32 0) 1 n) 21)
    rw [e1] at this; exact this
  have r1 := Row.made1 _ w2.heap.size n (.int .i32 0) 21 rfl b1
  have r2 := Row.made1 _ (w2.heap.size + 1) n (.int .i32 0) 21 rfl b2
  have hsz : w2.heap.size + 1 < (((w2.alloc (.cells (mc (.int .i32 0) 1 n) 21)).alloc (.cells (mc (.int .i32 0) 1 n) 21)).drew).heap.size := heap_lt b2
  have hsp := h.sp.lt
  have hlt := hm.lt
  refine ⟨h.keep k (fun _ _ q => q) (fun _ q => .inl q), hst w2 _ D1 _ hy (k.wide (fun _ q => q.elim)) ?_, k.at hm.g id, ?_, ?_, ⟨by omega, fun b e => ?_, fun b e => ?_, by omega, by omega⟩, ⟨.inl hm.dg, .inr (.inl rfl), .inr (.inr rfl)⟩, ?_, fun b q => .inl (hm.up b q), fun b q => ?_, fun b q => ?_⟩
  · rintro b (q | q | q)
    · exact .inl q
    · exact .inr (by omega)
    · exact .inr (by omega)
  · rcases hL with ⟨rfl, rfl⟩ | ⟨rfl, rfl⟩
    · exact ⟨_, r1⟩
    · exact ⟨_, r2⟩
  · rcases hL with ⟨rfl, rfl⟩ | ⟨rfl, rfl⟩
    · exact ⟨_, r2⟩
    · exact ⟨_, r1⟩
  · have := h.vw.lt e; omega
  · have := h.vt.lt e; omega
  · rcases hL with ⟨rfl, rfl⟩ | ⟨rfl, rfl⟩
    · exact ⟨⟨_, b1⟩, ⟨_, b2⟩⟩
    · exact ⟨⟨_, b2⟩, ⟨_, b1⟩⟩
  · rcases q with q | q | q
    · exact hm.dn b q
    · exact .inr (by omega)
    · exact .inr (by omega)
  · rcases q with q | q | q
    · have := hlt b q; omega
    · omega
    · omega
theorem DL.keepF {YI : World → (Nat → Prop) → Prop} {w : World} {D : Nat → Prop} {GR bG LW LR : Nat} {n keys p1 p2 p3 p4 p5 p6 SB NS sc : Nat} {su sl : Nat → Nat} {sk : Nat → Int} {ta : Option Addr} {tl tc : Nat} {tv : Nat → Nat} {wa : Option Addr} {wl wc : Nat} {wv : Nat → Nat} {wr : World} {D1 : Nat → Prop} (h : DL YI w D GR bG LW LR n keys p1 p2 p3 p4 p5 p6 SB NS sc su sl sk ta tl tc tv wa wl wc wv wr D1) (hst : ∀ w w' D D', YI w D → Keep D w w' → (∀ b, D' b → D b ∨ (w.heap.size ≤ b ∧ b < w'.heap.size)) → YI w' D') {w' : World} (k : Keep (fun _ => False) wr w') : DL YI w D GR bG LW LR n keys p1 p2 p3 p4 p5 p6 SB NS sc su sl sk ta tl tc tv wa wl wc wv w' D1 := by
  obtain ⟨f1, r1⟩ := h.rw1
  obtain ⟨f2, r2⟩ := h.rw2
  obtain ⟨⟨c1, t1⟩, ⟨c2, t2⟩⟩ := h.tyl
  exact ⟨h.ds.keep k (fun _ _ q => q) (fun _ q => q), hst wr w' D1 D1 h.yi (k.wide (fun _ q => q.elim)) (fun _ q => .inl q), k.at h.g id, ⟨f1, r1.keep (k.block LW (heap_lt t1) id)⟩, ⟨f2, r2.keep (k.block LR (heap_lt t2) id)⟩, h.ne, h.d, ⟨⟨c1, k.at t1 id⟩, ⟨c2, k.at t2 id⟩⟩, h.up, h.dn, fun b q => Nat.lt_of_lt_of_le (h.lt b q) k.size⟩
theorem DL.more {YI : World → (Nat → Prop) → Prop} {w : World} {D : Nat → Prop} {GR bG LW LR : Nat} {n keys p1 p2 p3 p4 p5 p6 SB NS sc : Nat} {su sl : Nat → Nat} {sk : Nat → Int} {ta : Option Addr} {tl tc : Nat} {tv : Nat → Nat} {wa : Option Addr} {wl wc : Nat} {wv : Nat → Nat} {wr : World} {D1 : Nat → Prop} (h : DL YI w D GR bG LW LR n keys p1 p2 p3 p4 p5 p6 SB NS sc su sl sk ta tl tc tv wa wl wc wv wr D1) (hst : ∀ w w' D D', YI w D → Keep D w w' → (∀ b, D' b → D b ∨ (w.heap.size ≤ b ∧ b < w'.heap.size)) → YI w' D') (hw : w.heap.size ≤ wr.heap.size) (o : Obj) : DL YI w D GR bG LW LR n keys p1 p2 p3 p4 p5 p6 SB NS sc su sl sk ta tl tc tv wa wl wc wv (wr.alloc o) (fun b => D1 b ∨ b = wr.heap.size) := by
  have k := Keep.alloc (fun _ => False) wr o
  have h1 := h.keepF hst k
  have e : (wr.alloc o).heap.size = wr.heap.size + 1 := World.size_alloc _ _
  refine ⟨h1.ds.keep (Keep.refl (fun _ => False) _) (fun _ _ q => q) (fun _ q => .inl q), hst wr _ D1 _ h.yi (k.wide (fun _ q => q.elim)) ?_, h1.g, h1.rw1, h1.rw2, h1.ne, ⟨.inl h.d.1, .inl h.d.2.1, .inl h.d.2.2⟩, h1.tyl, fun b q => .inl (h.up b q), ?_, ?_⟩
  · rintro b (q | q)
    · exact .inl q
    · exact .inr (by omega)
  · rintro b (q | q)
    · exact h.dn b q
    · exact .inr (by omega)
  · rintro b (q | q)
    · exact h1.lt b q
    · omega
theorem DL.yield {YI : World → (Nat → Prop) → Prop} {w : World} {D : Nat → Prop} {GR bG LW LR : Nat} {n keys p1 p2 p3 p4 p5 p6 SB NS sc : Nat} {su sl : Nat → Nat} {sk : Nat → Int} {ta : Option Addr} {tl tc : Nat} {tv : Nat → Nat} {wa : Option Addr} {wl wc : Nat} {wv : Nat → Nat} {wr : World} {D1 : Nat → Prop} (h : DL YI w D GR bG LW LR n keys p1 p2 p3 p4 p5 p6 SB NS sc su sl sk ta tl tc tv wa wl wc wv wr D1) {w' : World} (k : Keep (fun b => ¬ D1 b) wr w') (hy : YI w' D1) : DL YI w D GR bG LW LR n keys p1 p2 p3 p4 p5 p6 SB NS sc su sl sk ta tl tc tv wa wl wc wv w' D1 := by
  obtain ⟨f1, r1⟩ := h.rw1
  obtain ⟨f2, r2⟩ := h.rw2
  obtain ⟨⟨c1, t1⟩, ⟨c2, t2⟩⟩ := h.tyl
  exact ⟨h.ds.keep k (fun b hb q => q hb) (fun _ q => q), hy, k.at h.g (fun q => q h.d.1), ⟨f1, r1.keep (k.block LW (heap_lt t1) (fun q => q h.d.2.1))⟩, ⟨f2, r2.keep (k.block LR (heap_lt t2) (fun q => q h.d.2.2))⟩, h.ne, h.d, ⟨⟨c1, k.at t1 (fun q => q h.d.2.1)⟩, ⟨c2, k.at t2 (fun q => q h.d.2.2)⟩⟩, h.up, h.dn, fun b q => Nat.lt_of_lt_of_le (h.lt b q) k.size⟩
theorem DS.keepx {n keys p1 p2 p3 p4 p5 p6 SB NS sc : Nat} {su sl : Nat → Nat} {sk : Nat → Int} {q : Option Nat} {w w' : World} {D : Nat → Prop} {ta : Option Addr} {tl tc : Nat} {tv : Nat → Nat} {wa : Option Addr} {wl wc : Nat} {wv : Nat → Nat} (h : DS n keys p1 p2 p3 p4 p5 p6 SB NS sc su sl sk q w D ta tl tc tv wa wl wc wv) {F : Nat → Prop} (k : Keep F w w') (hF : ¬ F p1 ∧ ¬ F p2 ∧ ¬ F p3 ∧ ¬ F p4 ∧ ¬ F p5 ∧ ¬ F p6 ∧ ¬ F SB) (ht : ∀ b, ta = some ⟨b, 0, none⟩ → ¬ F b) (hw : ∀ b, wa = some ⟨b, 0, none⟩ → ¬ F b) : DS n keys p1 p2 p3 p4 p5 p6 SB NS sc su sl sk q w' D ta tl tc tv wa wl wc wv := by
  obtain ⟨d1, d2, d3, d4, d5, d6, d7⟩ := hF
  exact ⟨k.at h.b1 d1, k.at h.b2 d2, k.at h.b3 d3, k.at h.b4 d4, k.at h.b5 d5, k.at h.b6 d6, h.sp.keep k d7, h.vt.keep k ht, h.vw.keep k hw, h.ht, h.hw, h.lt, h.ne, h.d, h.dt, h.dw, h.ns⟩
/-- A number is listed. -/
theorem DL.set {YI : World → (Nat → Prop) → Prop} {w : World} {D : Nat → Prop} {GR bG LW LR : Nat} {n keys p1 p2 p3 p4 p5 p6 SB NS sc : Nat} {su sl : Nat → Nat} {sk : Nat → Int} {ta : Option Addr} {tl tc : Nat} {tv : Nat → Nat} {wa : Option Addr} {wl wc : Nat} {wv : Nat → Nat} {wr : World} {D1 : Nat → Prop} (h : DL YI w D GR bG LW LR n keys p1 p2 p3 p4 p5 p6 SB NS sc su sl sk ta tl tc tv wa wl wc wv wr D1) (hst : ∀ w w' D D', YI w D → Keep D w w' → (∀ b, D' b → D b ∨ (w.heap.size ≤ b ∧ b < w'.heap.size)) → YI w' D') (LI : Nat) (hLI : LI = LW ∨ LI = LR) (x : Nat) (hx : x < n) (v : Int) : DL YI w D GR bG LW LR n keys p1 p2 p3 p4 p5 p6 SB NS sc su sl sk ta tl tc tv wa wl wc wv (wr.setCell ⟨LI, x, none⟩ (.int .i32 v)) D1 := by
  obtain ⟨f1, r1⟩ := h.rw1
  obtain ⟨f2, r2⟩ := h.rw2
  obtain ⟨⟨c1, t1⟩, ⟨c2, t2⟩⟩ := h.tyl
  have k := Keep.setCell wr ⟨LI, x, none⟩ (.int .i32 v)
  obtain ⟨c3, t3⟩ : ∃ c, wr.heap[LI]? = some (.cells c 21) := by rcases hLI with rfl | rfl; exact ⟨c1, t1⟩; exact ⟨c2, t2⟩
  have n1 : ∀ {b : Nat} {c : Array Value} {t : TypeId}, wr.heap[b]? = some (.cells c t) → t ≠ 21 → ¬ b = LI := fun hb ht e => ne_of_types hb t3 ht e
  have hne := h.ne
  have hsame : ∀ (L : Nat) (c : Array Value), wr.heap[L]? = some (.cells c 21) → ∃ c', (wr.setCell ⟨LI, x, none⟩ (.int .i32 v)).heap[L]? = some (.cells c' 21) := fun L c hc => by
    by_cases e : L = LI
    · subst e; exact ⟨_, heap_set wr L x _ _ _ hc⟩
    · exact ⟨c, k.at hc e⟩
  have hrow : ∀ (L : Nat) (f : Nat → Int), Row wr L n (fun i => .int .i32 (f i)) → (∃ c, wr.heap[L]? = some (.cells c 21)) → ∃ f' : Nat → Int, Row (wr.setCell ⟨LI, x, none⟩ (.int .i32 v)) L n (fun i => .int .i32 (f' i)) := fun L f r hc => by
    obtain ⟨c, hc⟩ := hc
    by_cases e : L = LI
    · subst e
      exact ⟨fun i => if i = x then v else f i, (r.set x (.int .i32 v) hx).congr (fun i _ => by by_cases e : i = x <;> simp [e])⟩
    · exact ⟨f, r.keep (k.block L (heap_lt hc) e)⟩
  refine ⟨h.ds.keepx k ⟨n1 h.ds.b1 (by decide), n1 h.ds.b2 (by decide), n1 h.ds.b3 (by decide), n1 h.ds.b4 (by decide), n1 h.ds.b5 (by decide), n1 h.ds.b6 (by decide), ?_⟩ (fun b hb => ?_) (fun b hb => ?_), hst wr _ D1 D1 h.yi (k.wide (fun b (e : b = LI) => ?_)) (fun _ q => .inl q), k.at h.g (n1 h.g (by decide)), hrow LW f1 r1 ⟨c1, t1⟩, hrow LR f2 r2 ⟨c2, t2⟩, h.ne, h.d, ⟨hsame LW c1 t1, hsame LR c2 t2⟩, h.up, h.dn, fun b q => Nat.lt_of_lt_of_le (h.lt b q) k.size⟩
  · show ¬ SB = LI
    rcases hLI with rfl | rfl
    · exact hne.2.2.2.1
    · exact hne.2.2.2.2
  · show ¬ b = LI
    rcases hLI with rfl | rfl
    · exact (hne.2.2.1 b hb).1
    · exact (hne.2.2.1 b hb).2
  · show ¬ b = LI
    rcases hLI with rfl | rfl
    · exact (hne.2.1 b hb).1
    · exact (hne.2.1 b hb).2
  · rw [e]
    rcases hLI with rfl | rfl
    · exact h.d.2.1
    · exact h.d.2.2
/-- The blocks of deps in part one. -/
structure DX (D : Nat → Prop) (bG SZ : Nat) (wr : World) (Dx : Nat → Prop) : Prop where
  up : ∀ b, D b → Dx b
  dn : ∀ b, Dx b → D b ∨ (bG < b ∧ b ≠ SZ)
  lt : ∀ b, Dx b → b < wr.heap.size
/-- Part one while the steps are gone through. -/
structure D3 (w : World) (D : Nat → Prop) (GR bG SZ : Nat) (f : Nat → Nat) (n keys p1 p2 p3 p4 p5 p6 SB NS sc : Nat) (su sl : Nat → Nat) (sk : Nat → Int) (wr : World) (Dx : Nat → Prop) (ta : Option Addr) (tl tc : Nat) (tv : Nat → Nat) (wa : Option Addr) (wl wc : Nat) (wv : Nat → Nat) : Prop where
  ds : DS n keys p1 p2 p3 p4 p5 p6 SB NS sc su sl sk (some GR) wr Dx ta tl tc tv wa wl wc wv
  pa : PA w D GR n bG wr
  sz : Row wr SZ n (fun i => .int .i64 (f i : Int))
  szl : SZ < wr.heap.size ∧ bG < SZ ∧ w.heap.size = bG
  dx : DX D bG SZ wr Dx
theorem D3.keepF {w : World} {D : Nat → Prop} {GR bG SZ : Nat} {f : Nat → Nat} {n keys p1 p2 p3 p4 p5 p6 SB NS sc : Nat} {su sl : Nat → Nat} {sk : Nat → Int} {wr w' : World} {Dx : Nat → Prop} {ta : Option Addr} {tl tc : Nat} {tv : Nat → Nat} {wa : Option Addr} {wl wc : Nat} {wv : Nat → Nat} (h : D3 w D GR bG SZ f n keys p1 p2 p3 p4 p5 p6 SB NS sc su sl sk wr Dx ta tl tc tv wa wl wc wv) (k : Keep (fun _ => False) wr w') : D3 w D GR bG SZ f n keys p1 p2 p3 p4 p5 p6 SB NS sc su sl sk w' Dx ta tl tc tv wa wl wc wv :=
  ⟨h.ds.keep k (fun _ _ q => q) (fun _ q => q), ⟨h.pa.k.trans k (fun _ q => q.elim), k.at h.pa.g id⟩, h.sz.keep (k.block SZ h.szl.1 id), ⟨Nat.lt_of_lt_of_le h.szl.1 k.size, h.szl.2⟩, ⟨h.dx.up, h.dx.dn, fun b hb => Nat.lt_of_lt_of_le (h.dx.lt b hb) k.size⟩⟩
theorem D3.tpush {w : World} {D : Nat → Prop} {GR bG SZ : Nat} {f : Nat → Nat} {n keys p1 p2 p3 p4 p5 p6 SB NS sc : Nat} {su sl : Nat → Nat} {sk : Nat → Int} {wr w' : World} {Dx : Nat → Prop} {ta : Option Addr} {tl tc : Nat} {tv : Nat → Nat} {wa : Option Addr} {wl wc : Nat} {wv : Nat → Nat} (h : D3 w D GR bG SZ f n keys p1 p2 p3 p4 p5 p6 SB NS sc su sl sk wr Dx ta tl tc tv wa wl wc wv) (hDl : ∀ b, D b → b < bG) (hp : p3 ≠ p4 ∧ p1 ≠ SB ∧ p3 ≠ SB ∧ p4 ≠ SB) (i : Nat) (hi : i < NS) (hl : tl < NS) {g cap : Nat}
    (t1 : w'.heap[p3]? = some (.cells #[.slice (some ⟨g, 0, none⟩) (tl + 1) cap] 95)) (t2 : Vec w' 21 1 (some ⟨g, 0, none⟩) (tl + 1) cap (push tl (fun i _ => .int .i32 (tv i : Int)) (fun _ => .int .i32 (i : Int)))) (t3 : Keep (fun b => b = p3 ∨ ta = some ⟨b, 0, none⟩) wr w') (t5 : ta = some ⟨g, 0, none⟩ ∨ wr.heap.size ≤ g) :
    D3 w D GR bG SZ f n keys p1 p2 p3 p4 p5 p6 SB NS sc su sl sk w' (fun b => Dx b ∨ b = g) (some ⟨g, 0, none⟩) (tl + 1) cap (fun j => if j = tl then i else tv j) wa wl wc wv := by
  have hs := h.szl
  have d3 := h.ds.d.2.2.1
  have hout : ∀ b, (b = p3 ∨ ta = some ⟨b, 0, none⟩) → Dx b := by
    rintro b (e | e)
    · rw [e]; exact d3
    · exact h.ds.dt b e
  have nSZ : ¬ (SZ = p3 ∨ ta = some ⟨SZ, 0, none⟩) := fun e => by
    rcases h.dx.dn SZ (hout SZ e) with r | r
    · have := hDl SZ r; omega
    · exact r.2 rfl
  have nG : ¬ (bG = p3 ∨ ta = some ⟨bG, 0, none⟩) := fun e => by
    rcases h.dx.dn bG (hout bG e) with r | r
    · have := hDl bG r; omega
    · omega
  have hD1 := (h.ds.keep (Keep.refl (fun _ => False) wr) (fun _ _ q => q) (D' := fun b => Dx b ∨ b = g) (fun _ q => .inl q))
  refine ⟨hD1.tpush hp i hi hl t1 t2 t3 t5 (fun _ => .inr rfl), ⟨h.pa.k.trans t3 (fun b e => ?_), t3.at h.pa.g nG⟩, h.sz.keep (t3.block SZ hs.1 nSZ), ⟨Nat.lt_of_lt_of_le hs.1 t3.size, hs.2⟩, ⟨fun b hb => .inl (h.dx.up b hb), fun b hb => ?_, fun b hb => ?_⟩⟩
  · rcases h.dx.dn b (hout b e) with r | r
    · exact .inl r
    · exact .inr (by omega)
  · rcases hb with hb | hb
    · exact h.dx.dn b hb
    · rcases t5 with r | r
      · rw [hb]; exact h.dx.dn g (h.ds.dt g r)
      · exact .inr (by omega)
  · rcases hb with hb | hb
    · exact Nat.lt_of_lt_of_le (h.dx.lt b hb) t3.size
    · rw [hb]; exact t2.lt rfl
theorem D3.wpush {w : World} {D : Nat → Prop} {GR bG SZ : Nat} {f : Nat → Nat} {n keys p1 p2 p3 p4 p5 p6 SB NS sc : Nat} {su sl : Nat → Nat} {sk : Nat → Int} {wr w' : World} {Dx : Nat → Prop} {ta : Option Addr} {tl tc : Nat} {tv : Nat → Nat} {wa : Option Addr} {wl wc : Nat} {wv : Nat → Nat} (h : D3 w D GR bG SZ f n keys p1 p2 p3 p4 p5 p6 SB NS sc su sl sk wr Dx ta tl tc tv wa wl wc wv) (hDl : ∀ b, D b → b < bG) (hp : p3 ≠ p4 ∧ p1 ≠ SB ∧ p3 ≠ SB ∧ p4 ≠ SB) {g cap wl' : Nat} {wv' : Nat → Nat} (hwv : ∀ i, i < wl' → wv' i < NS) (hl : wl' ≤ NS)
    (t1 : w'.heap[p4]? = some (.cells #[.slice (some ⟨g, 0, none⟩) wl' cap] 95)) (t2 : Vec w' 21 1 (some ⟨g, 0, none⟩) wl' cap (fun i _ => .int .i32 (wv' i : Int))) (t3 : Keep (fun b => b = p4 ∨ wa = some ⟨b, 0, none⟩) wr w') (t5 : wa = some ⟨g, 0, none⟩ ∨ wr.heap.size ≤ g) :
    D3 w D GR bG SZ f n keys p1 p2 p3 p4 p5 p6 SB NS sc su sl sk w' (fun b => Dx b ∨ b = g) ta tl tc tv (some ⟨g, 0, none⟩) wl' cap wv' := by
  have hs := h.szl
  have d4 := h.ds.d.2.2.2.1
  have hout : ∀ b, (b = p4 ∨ wa = some ⟨b, 0, none⟩) → Dx b := by
    rintro b (e | e)
    · rw [e]; exact d4
    · exact h.ds.dw b e
  have nSZ : ¬ (SZ = p4 ∨ wa = some ⟨SZ, 0, none⟩) := fun e => by
    rcases h.dx.dn SZ (hout SZ e) with r | r
    · have := hDl SZ r; omega
    · exact r.2 rfl
  have nG : ¬ (bG = p4 ∨ wa = some ⟨bG, 0, none⟩) := fun e => by
    rcases h.dx.dn bG (hout bG e) with r | r
    · have := hDl bG r; omega
    · omega
  have hD1 := (h.ds.keep (Keep.refl (fun _ => False) wr) (fun _ _ q => q) (D' := fun b => Dx b ∨ b = g) (fun _ q => .inl q))
  refine ⟨hD1.wpush hp hwv hl t1 t2 t3 t5 (fun _ => .inr rfl), ⟨h.pa.k.trans t3 (fun b e => ?_), t3.at h.pa.g nG⟩, h.sz.keep (t3.block SZ hs.1 nSZ), ⟨Nat.lt_of_lt_of_le hs.1 t3.size, hs.2⟩, ⟨fun b hb => .inl (h.dx.up b hb), fun b hb => ?_, fun b hb => ?_⟩⟩
  · rcases h.dx.dn b (hout b e) with r | r
    · exact .inl r
    · exact .inr (by omega)
  · rcases hb with hb | hb
    · exact h.dx.dn b hb
    · rcases t5 with r | r
      · rw [hb]; exact h.dx.dn g (h.ds.dw g r)
      · exact .inr (by omega)
  · rcases hb with hb | hb
    · exact Nat.lt_of_lt_of_le (h.dx.lt b hb) t3.size
    · rw [hb]; exact t2.lt rfl
theorem D3.keepM {w : World} {D : Nat → Prop} {GR bG SZ : Nat} {f : Nat → Nat} {n keys p1 p2 p3 p4 p5 p6 SB NS sc : Nat} {su sl : Nat → Nat} {sk : Nat → Int} {wr w' : World} {Dx : Nat → Prop} {ta : Option Addr} {tl tc : Nat} {tv : Nat → Nat} {wa : Option Addr} {wl wc : Nat} {wv : Nat → Nat} (h : D3 w D GR bG SZ f n keys p1 p2 p3 p4 p5 p6 SB NS sc su sl sk wr Dx ta tl tc tv wa wl wc wv) {mb : Nat} (k : Keep (fun b => b = mb) wr w') (h1 : bG < mb) (h2 : mb ≠ SZ) (h3 : ¬ Dx mb) : D3 w D GR bG SZ f n keys p1 p2 p3 p4 p5 p6 SB NS sc su sl sk w' Dx ta tl tc tv wa wl wc wv := by
  have hs := h.szl
  exact ⟨h.ds.keep k (fun b hb (e : b = mb) => h3 (e ▸ hb)) (fun _ q => q), ⟨h.pa.k.trans k (fun b (e : b = mb) => .inr (by omega)), k.at h.pa.g (by omega)⟩, h.sz.keep (k.block SZ hs.1 (by omega)), ⟨Nat.lt_of_lt_of_le hs.1 k.size, hs.2⟩, ⟨h.dx.up, h.dx.dn, fun b hb => Nat.lt_of_lt_of_le (h.dx.lt b hb) k.size⟩⟩
theorem Vec.src1 {w : World} {a : Option Addr} {n c : Nat} {f : Nat → Value} (h : Vec w 21 1 a n c (fun i _ => f i)) : Src1 w (.slice a n c) n f := by
  by_cases h0 : 0 < n
  · obtain ⟨g, rfl, _, r⟩ := h.blk h0
    exact .inr ⟨g, 0, c, rfl, fun j hj => by have := r.cell j 0 hj (by omega); simpa using this⟩
  · obtain rfl : n = 0 := by omega
    rcases h.own.2 with ⟨e, _⟩ | ⟨g, cap, cur, e, _⟩
    · exact .inl ⟨e, rfl⟩
    · exact .inr ⟨g, 0, cap, e, fun j hj => by omega⟩
theorem cf58 (args : Array Value) (W : World) : (callFunc 58 args).run Ybaz.prog W = .ok (.enter 58 args) W := cf Ybaz.func58 (by kernel_rfl) (by kernel_rfl) args W
theorem cf59 (args : Array Value) (W : World) : (callFunc 59 args).run Ybaz.prog W = .ok (.enter 59 args) W := cf Ybaz.func59 (by kernel_rfl) (by kernel_rfl) args W
/-- Behind a bucketed that has been laid in the box of the writes. -/
theorem D3.buck {w : World} {D : Nat → Prop} {GR bG SZ : Nat} {f : Nat → Nat} {n keys p1 p2 p3 p4 p5 p6 SB NS sc : Nat} {su sl : Nat → Nat} {sk : Nat → Int} {wr w2 : World} {Dx : Nat → Prop} {ta : Option Addr} {tl tc : Nat} {tv : Nat → Nat} {wa : Option Addr} {wl wc : Nat} {wv : Nat → Nat} (h : D3 w D GR bG SZ f n keys p1 p2 p3 p4 p5 p6 SB NS sc su sl sk wr Dx ta tl tc tv wa wl wc wv) (hDl : ∀ b, D b → b < bG) (hp : p3 ≠ p4 ∧ p1 ≠ SB ∧ p3 ≠ SB ∧ p4 ≠ SB) (hNS : NS ≤ 2000) {L : Int} (hL : 0 < wl → L = (NS : Int)) (SO : Nat) (so : Nat → Int) (hr : Row w2 SO wl (fun i => .int .i32 (so i))) (hs : ∀ i, i < wl → 0 ≤ so i ∧ so i < L) (h1 : wr.heap.size ≤ SO) (hct : CT w2 SO wl) (k : Keep (fun _ => False) wr w2) :
    ∃ wv', D3 w D GR bG SZ f n keys p1 p2 p3 p4 p5 p6 SB NS sc su sl sk (w2.setCell ⟨p4, 0, none⟩ (.slice (some ⟨SO, 0, none⟩) wl wl)) (fun b => Dx b ∨ b = SO) ta tl tc tv (some ⟨SO, 0, none⟩) wl wl wv' := by
  have hl := h.ds.lt.2
  have b4 := k.at h.ds.b4 id
  have hne : p4 ≠ SO := by have := heap_lt h.ds.b4; omega
  have kS := Keep.setCell w2 ⟨p4, 0, none⟩ (.slice (some ⟨SO, 0, none⟩) wl wl)
  refine ⟨fun i => (so i).toNat, h.wpush hDl hp (fun i hi => ?_) hl ?_ ?_ ((k.wide (fun _ q => q.elim)).trans kS (fun b (e : b = p4) => .inl (.inl e))) (.inr h1)⟩
  · have := hs i hi
    have := hL (by omega)
    omega
  · have := heap_set w2 p4 0 (.slice (some ⟨SO, 0, none⟩) wl wl) _ _ b4
    simpa using this
  · have v := (Vec.ofCT hct hr (by omega)).keep kS (fun b e => by
      simp only [Option.some.injEq, Addr.mk.injEq, and_true] at e
      show ¬ b = p4
      omega)
    exact v.congr (by decide) (fun i c hi _ => by
      have := hs i hi
      show Value.int .i32 (so i) = Value.int .i32 (((so i).toNat : Nat) : Int)
      congr 1
      omega)
/-- The map of the groups. -/
structure DN (mb bD mn : Nat) (m : Int → Option Value) (ub : Nat) (wr : World) : Prop where
  mp : MP wr 21 mb mn (intM .i32 m)
  box : wr.heap[bD]? = some (.cells #[.map (some mb)] 139)
  val : ∀ x v, m x = some v → ∃ y : Nat, v = .int .i64 (y : Int) ∧ (y = 0 ∨ y < ub)
theorem DN.keepF {mb bD mn : Nat} {m : Int → Option Value} {ub : Nat} {wr w' : World} (h : DN mb bD mn m ub wr) (k : Keep (fun _ => False) wr w') : DN mb bD mn m ub w' := ⟨h.mp.keep k id, k.at h.box id, h.val⟩
theorem DN.put {mb bD mn : Nat} {m : Int → Option Value} {ub ub' : Nat} {wr : World} (h : DN mb bD mn m ub wr) (hb : bD ≠ mb) (hmn : mn ≤ 5000) (x : Int) (hx : keyOf Ybaz.prog 21 (.int .i32 x) = some (.int .i32 x)) (y : Nat) (hu : ub ≤ ub') (hy : y = 0 ∨ y < ub') :
    ∃ w', (Instr.mapUpdate 139 (.map (some mb)) (.int .i32 x) (.int .i64 (y : Int))).run Ybaz.prog wr = .ok () w' ∧ DN mb bD (mn + 1) (fun z => if z = x then some (.int .i64 (y : Int)) else m z) ub' w' ∧ Keep (fun b => b = mb) wr w' := by
  obtain ⟨w', hr, h1, h2, _⟩ := h.mp.put keyed21 Ybaz.underlying139 (by unfold maxLen; omega) hx (.int .i64 (y : Int))
  rw [intM_put] at h1
  refine ⟨w', hr, ⟨h1, h2.at h.box hb, fun z v hv => ?_⟩, h2⟩
  by_cases e : z = x
  · simp only [e, if_true, Option.some.injEq] at hv
    exact ⟨y, hv.symm, hy⟩
  · simp only [e, if_false] at hv
    obtain ⟨y', e1, e2⟩ := h.val z v hv
    exact ⟨y', e1, by omega⟩
attribute [local go_sem ↓ 2000] exec_app
attribute [local go_sem ↓] exec_make62 exec_make95
set_option maxHeartbeats 16000000 in
set_option maxRecDepth 100000 in
theorem deps_any (n keys p1 p2 p3 p4 p5 p6 SB NS sc : Nat) (su sl : Nat → Nat) (sk : Nat → Int) (hn : n ≤ 5) (hn0 : 0 < n) (hky : keys ≤ 3) (hNS : NS ≤ 2000) (hp : p3 ≠ p4 ∧ p1 ≠ SB ∧ p3 ≠ SB ∧ p4 ≠ SB) : DepsC (DEf n keys p1 p2 p3 p4 p5 p6 SB NS sc su sl sk) n p1 p2 p3 p4 p5 p6 := by
  intro YI YF hstep GR gr hGR hgr kinds hkd fn hfn caps hyield w D hYI q hq hDE
  obtain ⟨hdl, ta, tl, tc, tv, wa, wl, wc, wv, hDS⟩ := hDE
  have hR0 := (hGR w D hYI).1
  have n1 : (n : Int) ≤ 5 := by omega
  have n2 : (0 : Int) < (n : Int) := by omega
  have c1 : (w.alloc (.cells #[.slice (some ⟨GR, 0, none⟩) n n] 95)).cell? ⟨p1, 0, none⟩ = some (.pointer (gAddr q)) := cell_of _ _ 0 _ _ (heap_grow _ hDS.b1)
  have kA := Keep.alloc (fun _ => False) w (.cells #[.slice (some ⟨GR, 0, none⟩) n n] 95)
  have hnq := run_neq93 (w.alloc (.cells #[.slice (some ⟨GR, 0, none⟩) n n] 95)).drew q GR (fun g e => by
    obtain ⟨⟨c, t, z, h1⟩, h2⟩ := hq g e
    have hg : g < w.heap.size := heap_lt h1
    exact ⟨⟨c, t, z, (kA.block g hg id).trans h1⟩, fun i => (kA.free ⟨g, i, none⟩ hg id).trans (h2 i)⟩) ((hR0.keep (w' := (w.alloc (.cells #[.slice (some ⟨GR, 0, none⟩) n n] 95)).drew) (kA.block GR (hGR w D hYI).2 id)).isC hn0)
  have hDl : ∀ b, D b → b < w.heap.size := hdl
  have HDl : Hid _ := hDl
  have HST : Hid _ := @hstep
  have HGR : Hid _ := @hGR
  have HGV : Hid _ := @hgr
  have HYL : Hid _ := @hyield
  have HYI : Hid _ := hYI
  have HDS : Hid _ := hDS
  clear hstep hGR hgr hyield hYI hDS hR0 kA hq
  go_enter Ybaz.func54, Ybaz.ntmps54
  go_upto_region 1 with fail
  go_region
  clear hnq c1
  have HPA : Hid (PA w D GR n w.heap.size (w.alloc (.cells #[.slice (some ⟨GR, 0, none⟩) n n] 95)).drew) := ⟨(Keep.alloc D w _).drew, heap_alloc_new _ _⟩
  have HDS1 : Hid _ := HDS.out.keep (Keep.alloc (fun _ => False) w (.cells #[.slice (some ⟨GR, 0, none⟩) n n] 95)).drew (fun _ _ q => q) (fun _ q => q)
  have hsz : w.heap.size < (w.alloc (.cells #[.slice (some ⟨GR, 0, none⟩) n n] 95)).drew.heap.size := heap_lt HPA.out.g
  clear HDS
  generalize (w.alloc (.cells #[.slice (some ⟨GR, 0, none⟩) n n] 95)).drew = w1 at *
  generalize hbG : w.heap.size = bG at *
  go_upto_if 43 with fail
  go_cut [12] from 10 to 149 (fun _ wx => ∃ (D1 : Nat → Prop) (ta : Option Addr) (tl tc : Nat) (tv : Nat → Nat) (wa : Option Addr) (wl wc : Nat) (wv : Nat → Nat), Hid (DS n keys p1 p2 p3 p4 p5 p6 SB NS sc su sl sk (some GR) wx D1 ta tl tc tv wa wl wc wv) ∧ Hid (YI wx D1) ∧ Hid (DM w D GR n bG wx D1))
  case first => as_aux_lemma =>
    by_cases hqe : q = some GR
    · subst hqe
      go_wp2
      go_meet
      refine ⟨fun b => D b ∨ b = bG, ta, tl, tc, tv, wa, wl, wc, wv, ?_, ?_, ?_⟩
      · exact HDS1.out.keep (Keep.refl (fun _ => False) _) (fun _ _ q => q) (fun _ q => .inl q)
      · exact HST.out w w1 D _ HYI.out HPA.out.k (fun b q => by
          rcases q with q | q
          · exact .inl q
          · exact .inr (by omega))
      · refine ⟨HPA.out.g, .inr rfl, fun _ q => .inl q, fun b q => ?_, fun b q => ?_⟩
        · rcases q with q | q
          · exact .inl q
          · exact .inr (by omega)
        · rcases q with q | q
          · have := HDl.out b q; omega
          · omega
    · have hqd : (!decide (q = some GR)) = true := by simp [hqe]
      rw [hqd]
      clear hqd hqe
      have HROW : Hid (∀ wr, Keep D w wr → Row wr GR n (fun i => .int .i32 (gr i)) ∧ GR < wr.heap.size) := fun wr k => HGR.out wr D (HST.out w wr D D HYI.out k (fun _ q => .inl q))
      have cg := cell_of _ _ 0 _ _ HPA.out.g
      have c1 := cell_of _ _ 0 _ _ HDS1.out.b1
      have f1 := free_of _ _ 0 _ _ HDS1.out.b1
      have HDS2 : Hid _ := (HDS1.out.p1 hp GR).keep (Keep.alloc (fun _ => False) (w1.setCell ⟨p1, 0, none⟩ (.pointer (some ⟨GR, 0, none⟩))) (.cells (mc (.int .i64 0) 1 n) 3)) (fun _ _ q => q) (fun _ q => q)
      have kk := HPA.out.k.trans (Keep.setCell w1 ⟨p1, 0, none⟩ (.pointer (some ⟨GR, 0, none⟩))) (fun b (q : b = p1) => .inl (by rw [q]; exact HDS1.out.d.1))
      have hgp : ¬ bG = p1 := fun e => by have := HDl.out p1 HDS1.out.d.1; omega
      have HPA2 : Hid (PA w D GR n bG ((w1.setCell ⟨p1, 0, none⟩ (.pointer (some ⟨GR, 0, none⟩))).alloc (.cells (mc (.int .i64 0) 1 n) 3))) := ⟨kk.trans (Keep.alloc (fun _ => False) _ _) (fun _ q => q.elim), heap_grow _ ((Keep.setCell w1 ⟨p1, 0, none⟩ (.pointer (some ⟨GR, 0, none⟩))).at HPA.out.g hgp)⟩
      have HSZ : Hid (Row ((w1.setCell ⟨p1, 0, none⟩ (.pointer (some ⟨GR, 0, none⟩))).alloc (.cells (mc (.int .i64 0) 1 n) 3)) w1.heap.size n (fun _ => .int .i64 0)) := by
        have e : (w1.setCell ⟨p1, 0, none⟩ (.pointer (some ⟨GR, 0, none⟩))).heap.size = w1.heap.size := by simp [World.setCell]
        have := heap_alloc_new (w1.setCell ⟨p1, 0, none⟩ (.pointer (some ⟨GR, 0, none⟩))) (.cells (mc (.int .i64 0) 1 n) 3)
        rw [e] at this
        exact Row.made1 _ _ _ _ 3 rfl this
      have c2 := cell_of _ _ 0 _ _ HDS2.out.b2
      have cgb : (w1.setCell ⟨p1, 0, none⟩ (.pointer (some ⟨GR, 0, none⟩))).cell? ⟨bG, 0, none⟩ = some (.slice (some ⟨GR, 0, none⟩) n n) := cell_of _ _ 0 _ _ ((Keep.setCell w1 ⟨p1, 0, none⟩ (.pointer (some ⟨GR, 0, none⟩))).at HPA.out.g hgp)
      have r62 := fun W => run_mkv 62 3 (.int .i64 0) 1 8 Ybaz.underlying62 inf3 (by omega) W n (by omega)
      simp only [List.getElem?_toArray, List.getElem?_cons_zero] at cg c1 c2
      have hpp : ¬ p1 = bG := fun e => hgp e.symm
      clear kk HDS1
      go_upto_region 4 with fail
      go_wp2
      clear cg c1 c2 f1 cgb r62 HPA
      have hwz : w1.heap.size < ((w1.setCell ⟨p1, 0, none⟩ (.pointer (some ⟨GR, 0, none⟩))).alloc (.cells (mc (.int .i64 0) 1 n) 3)).heap.size := by simp [World.setCell]
      generalize ((w1.setCell ⟨p1, 0, none⟩ (.pointer (some ⟨GR, 0, none⟩))).alloc (.cells (mc (.int .i64 0) 1 n) 3)) = w2 at *
      generalize w1.heap.size = SZ at *
      go_loopg [50] n (fun gk s wr => ∃ (u : Nat) (f : Nat → Nat), u ≤ n ∧ s = .int .i64 (u : Int) ∧ gk = n - u ∧ Hid (DS n keys p1 p2 p3 p4 p5 p6 SB NS sc su sl sk (some GR) wr D ta tl tc tv wa wl wc wv) ∧ Hid (PA w D GR n bG wr) ∧ Hid (Row wr SZ n (fun i => .int .i64 (f i : Int))) ∧ Hid (∀ i, f i ≤ u) ∧ Hid (SZ < wr.heap.size))
      case atStart => exact ⟨0, fun _ => 0, Nat.zero_le _, rfl, rfl, HDS2, HPA2, HSZ, fun _ => Nat.le_refl _, hwz⟩
      case round => as_aux_lemma =>
        clear HDS2 HPA2 HSZ hwz
        obtain ⟨u, f, hu, rfl, rfl, HDS, HPA, HSZ, HF, HSL⟩ := hrel
        by_cases hlt : u < n
        · have u1 : (u : Int) < (n : Int) := by omega
          have u2 : (u : Int).toNat = u := by omega
          have cg := cell_of _ _ 0 _ _ HPA.out.g
          have hro := (HROW.out wr HPA.out.k).1
          have eg := hro.cell u hlt
          have hgv := HGV.out u hlt
          simp only [List.getElem?_toArray, List.getElem?_cons_zero] at cg
          clear hro
          by_cases hc : 0 ≤ gr u
          · obtain ⟨c, hcc⟩ : ∃ c : Nat, gr u = (c : Int) := ⟨(gr u).toNat, by omega⟩
            rw [hcc] at eg hgv
            have c1 : (c : Int) < (n : Int) := hgv.2
            have c2 : (c : Int).toNat = c := by omega
            have c3 : (0 : Int) ≤ (c : Int) := by omega
            have es := HSZ.out.cell c (by omega)
            have fs := HSZ.out.free c
            have hfc := HF.out c
            have fw : IntKind.i64.wrap ((f c : Int) + 1) = (f c : Int) + 1 := by rw [IntKind.wrap_i64]; omega
            have f5 : (f c : Int) ≤ 5 := by omega
            have kS := Keep.setCell wr ⟨SZ, c, none⟩ (.int .i64 ((f c : Int) + 1))
            have hSG : bG < SZ := by omega
            have HDS3 : Hid _ := HDS.out.keep kS (fun b hb (e : b = SZ) => by have := HDl.out b hb; omega) (fun _ q => q)
            have HPA3 : Hid (PA w D GR n bG (wr.setCell ⟨SZ, c, none⟩ (.int .i64 ((f c : Int) + 1)))) := ⟨HPA.out.k.trans kS (fun b (e : b = SZ) => .inr (by omega)), kS.at HPA.out.g (show ¬ bG = SZ by omega)⟩
            have HSZ3 : Hid (Row (wr.setCell ⟨SZ, c, none⟩ (.int .i64 ((f c : Int) + 1))) SZ n (fun i => .int .i64 ((if i = c then f c + 1 else f i : Nat) : Int))) := (HSZ.out.set c _ (by omega)).congr (fun i _ => by by_cases e : i = c <;> simp [e])
            have HF3 : Hid (∀ i, (fun i => if i = c then f c + 1 else f i) i ≤ u + 1) := fun i => by
              have := HF.out i
              by_cases e : i = c
              · simp only [e, if_true]; omega
              · simp only [e, if_false]; omega
            have HSL3 : Hid (SZ < (wr.setCell ⟨SZ, c, none⟩ (.int .i64 ((f c : Int) + 1))).heap.size) := by have := HSL.out; show SZ < _; simpa [World.setCell] using this
            clear kS HDS HPA HSZ HF HSL
            go_wp2
            clear es fs eg cg
            generalize wr.setCell ⟨SZ, c, none⟩ (.int .i64 ((f c : Int) + 1)) = w3 at *
            go_roundg (n - (u + 1))
            case measure => omega
            case rel => exact ⟨u + 1, _, by omega, by go_num, rfl, HDS3, HPA3, HSZ3, HF3, HSL3⟩
          · go_wp2
            go_roundg (n - (u + 1))
            case measure => omega
            case rel => exact ⟨u + 1, f, by omega, by go_num, rfl, HDS, HPA, HSZ, fun i => by have := HF.out i; omega, HSL⟩
        · obtain rfl : u = n := by omega
          have q1 : ¬ (u : Int) < (u : Int) := by omega
          obtain ⟨w3, rfl⟩ : ∃ w3, w3 = wr := ⟨_, rfl⟩
          have c3 := cell_of _ _ 0 _ _ HDS.out.b3
          have c4 := cell_of _ _ 0 _ _ HDS.out.b4
          have f3 := free_of _ _ 0 _ _ HDS.out.b3
          have f4 := free_of _ _ 0 _ _ HDS.out.b4
          have hp34 := hp.1
          simp only [List.getElem?_toArray, List.getElem?_cons_zero] at c3 c4
          have HDS4 : Hid _ := HDS.out.empty hp
          have k4 : Keep (fun b => b = p3 ∨ b = p4) w3 (((w3.setCell ⟨p3, 0, none⟩ (.slice ta 0 tc)).setCell ⟨p4, 0, none⟩ (.slice wa 0 wc)).drew) := (((Keep.setCell w3 ⟨p3, 0, none⟩ (.slice ta 0 tc)).wide (fun b e => .inl e)).trans (Keep.setCell _ ⟨p4, 0, none⟩ (.slice wa 0 wc)) (fun b e => .inl (.inr e))).drew
          have hp3l := HDl.out p3 HDS.out.d.2.2.1
          have hp4l := HDl.out p4 HDS.out.d.2.2.2.1
          have HPA4 : Hid (PA w D GR u bG (((w3.setCell ⟨p3, 0, none⟩ (.slice ta 0 tc)).setCell ⟨p4, 0, none⟩ (.slice wa 0 wc)).drew)) := ⟨HPA.out.k.trans k4 (fun b e => .inl (by
            rcases e with e | e
            · rw [e]; exact HDS.out.d.2.2.1
            · rw [e]; exact HDS.out.d.2.2.2.1)), k4.at HPA.out.g (by omega)⟩
          have HSZ4 : Hid _ := HSZ.out.keep (k4.block SZ HSL.out (by omega))
          have HSL4 : Hid (SZ < (((w3.setCell ⟨p3, 0, none⟩ (.slice ta 0 tc)).setCell ⟨p4, 0, none⟩ (.slice wa 0 wc)).drew).heap.size) := Nat.lt_of_lt_of_le HSL.out k4.size
          clear k4 HDS HPA HSZ HSL
          go_upto_region 11 with fail
          go_region
          clear c3 c4 f3 f4
          generalize (((w3.setCell ⟨p3, 0, none⟩ (.slice ta 0 tc)).setCell ⟨p4, 0, none⟩ (.slice wa 0 wc)).drew) = w4 at *
          have HD3 : Hid (D3 w D GR bG SZ f u keys p1 p2 p3 p4 p5 p6 SB NS sc su sl sk w4 D ta 0 tc tv wa 0 wc wv) := ⟨HDS4.out, HPA4.out, HSZ4.out, ⟨HSL4.out, by omega, hbG⟩, fun _ q => q, fun _ q => .inl q, fun b q => by have := HDl.out b q; have := HPA4.out.k.size; omega⟩
          clear HDS4 HPA4 HSZ4 HSL4
          have c5 := cell_of _ _ 0 _ _ HD3.out.ds.b5
          simp only [List.getElem?_toArray, List.getElem?_cons_zero] at c5
          go_wp2
          go_loopg [72] NS (fun gk s wr => ∃ (i : Nat) (Dx : Nat → Prop) (ta : Option Addr) (tl tc : Nat) (tv : Nat → Nat) (wa : Option Addr) (wl wc : Nat) (wv : Nat → Nat), i ≤ NS ∧ s = .int .i64 (i : Int) ∧ gk = NS - i ∧ tl ≤ i ∧ wl ≤ i ∧ Hid (D3 w D GR bG SZ f u keys p1 p2 p3 p4 p5 p6 SB NS sc su sl sk wr Dx ta tl tc tv wa wl wc wv))
          case atStart => exact ⟨0, D, ta, 0, tc, tv, wa, 0, wc, wv, Nat.zero_le _, rfl, rfl, Nat.le_refl _, Nat.le_refl _, HD3⟩
          case round => as_aux_lemma =>
            clear HD3 c5
            obtain ⟨i, Dx, ta, tl, tc, tv, wa, wl, wc, wv, hi, rfl, rfl, htl, hwl, H3⟩ := hrel
            by_cases hlt : i < NS
            · have i1 : (i : Int) < (NS : Int) := by omega
              have i2 : (i : Int).toNat = i := by omega
              obtain ⟨e0, e1, e2, e3⟩ := H3.out.ds.sp.cell i hlt
              have hun := H3.out.ds.sp.hu i hlt
              simp only [show ((sl i + 1 : Nat) : Int) = (sl i : Int) + 1 by omega] at e2
              have H4 : Hid _ := H3.out.keepF (Keep.alloc (fun _ => False) wr (.cells #[.int .i64 (su i : Int), .int .i64 (sl i : Int), .int .i64 ((sl i : Int) + 1), .int .u8 (sk i)] 131))
              have HB4 : Hid _ := heap_alloc_new wr (.cells #[.int .i64 (su i : Int), .int .i64 (sl i : Int), .int .i64 ((sl i : Int) + 1), .int .u8 (sk i)] 131)
              clear H3
              go_upto_region 15 with fail
              clear e0 e1 e2 e3
              generalize wr.alloc (.cells #[.int .i64 (su i : Int), .int .i64 (sl i : Int), .int .i64 ((sl i : Int) + 1), .int .u8 (sk i)] 131) = w5 at *
              generalize wr.heap.size = bX at *
              have hr5 := (HROW.out w5 H4.out.pa.k).1
              have er := hr5.cell (su i) hun
              have hgv := HGV.out (su i) hun
              have cg := cell_of _ _ 0 _ _ H4.out.pa.g
              have x0 : w5.cell? ⟨bX, 0, none⟩ = some (.int .i64 (su i : Int)) := cell_of _ _ 0 _ _ HB4.out
              have u1 : (su i : Int) < (u : Int) := by omega
              have u2 : (su i : Int).toNat = su i := by omega
              simp only [List.getElem?_toArray, List.getElem?_cons_zero] at cg
              clear hr5
              have HH : Hid (∀ (gk' : Nat), gk' = NS - (i + 1) → True) := fun _ _ => trivial
              clear HH
              by_cases hc : 0 ≤ gr (su i)
              · obtain ⟨c, hcc⟩ : ∃ c : Nat, gr (su i) = (c : Int) := ⟨(gr (su i)).toNat, by omega⟩
                rw [hcc] at er hgv
                have c1 : (c : Int) < (u : Int) := hgv.2
                have c2 : (c : Int).toNat = c := by omega
                have c3 : (0 : Int) ≤ (c : Int) := by omega
                have es := H4.out.sz.cell c (by omega)
                by_cases hf : 1 < f c
                · have f1 : (1 : Int) < (f c : Int) := by omega
                  have cw : IntKind.i32.wrap (i : Int) = (i : Int) := by unfold IntKind.wrap; simp [IntKind.bits, IntKind.signed]; omega
                  have ct := cell_of _ _ 0 _ _ H4.out.ds.b3
                  simp only [List.getElem?_toArray, List.getElem?_cons_zero] at ct
                  obtain ⟨g6, cap6, w6, hr6, hv6, hk6, hg6, hl6⟩ := run_push (w5.alloc (.cells #[.int .i32 (i : Int)] 21)) 95 21 95 1 4 _ Ybaz.underlying95 inf21 rfl Nat.one_pos (by decide) ta tl tc _ (H4.out.ds.vt.alloc _) ⟨w5.heap.size, 0, none⟩ 1 (fun _ => .int .i32 (i : Int)) (new1 w5 _ 21) (fun _ _ => rfl) (by omega)
                  have hna : ¬ ta = some ⟨p3, 0, none⟩ := H4.out.ds.vt.off H4.out.ds.b3 (by decide)
                  have b6 := hk6.at (heap_grow (.cells #[.int .i32 (i : Int)] 21) H4.out.ds.b3) hna
                  have ct6 := cell_of _ _ 0 _ _ b6
                  have ft6 := free_of _ _ 0 _ _ b6
                  simp only [List.getElem?_toArray, List.getElem?_cons_zero] at ct6
                  obtain ⟨t1, t2, t3, _, t5⟩ := field_push (i := 0) H4.out.ds.b3 hv6 hk6 hg6 hna
                  have H6 : Hid _ := H4.out.tpush HDl.out hp i hlt (by omega) (by simpa using t1) t2 t3 t5
                  have hX6 : ¬ (bX = p3 ∨ ta = some ⟨bX, 0, none⟩) := by
                    rintro (e | e)
                    · exact ne_of_types HB4.out H4.out.ds.b3 (by decide) e
                    · exact H4.out.ds.vt.off HB4.out (by decide) e
                  have HB6 : Hid _ := t3.at HB4.out hX6
                  clear t1 t2 t3 t5 b6 hv6 hk6 hg6 hl6 hna hX6 H4 HB4
                  go_upto_region 18 with fail
                  clear ct ct6 ft6 hr6 er es cg x0
                  generalize w6.setCell ⟨p3, 0, none⟩ (.slice (some ⟨g6, 0, none⟩) (tl + 1) cap6) = w7 at *
                  have x3 : w7.cell? ⟨bX, 3, none⟩ = some (.int .u8 (sk i)) := cell_of _ _ 3 _ _ HB6.out
                  by_cases hk : sk i = 119
                  · rw [hk] at x3
                    have ct := cell_of _ _ 0 _ _ H6.out.ds.b4
                    simp only [List.getElem?_toArray, List.getElem?_cons_zero] at ct
                    obtain ⟨g8, cap8, w8, hr8, hv8, hk8, hg8, hl8⟩ := run_push (w7.alloc (.cells #[.int .i32 (i : Int)] 21)) 95 21 95 1 4 _ Ybaz.underlying95 inf21 rfl Nat.one_pos (by decide) wa wl wc _ (H6.out.ds.vw.alloc _) ⟨w7.heap.size, 0, none⟩ 1 (fun _ => .int .i32 (i : Int)) (new1 w7 _ 21) (fun _ _ => rfl) (by omega)
                    have hna : ¬ wa = some ⟨p4, 0, none⟩ := H6.out.ds.vw.off H6.out.ds.b4 (by decide)
                    have b8 := hk8.at (heap_grow (.cells #[.int .i32 (i : Int)] 21) H6.out.ds.b4) hna
                    have ct8 := cell_of _ _ 0 _ _ b8
                    have ft8 := free_of _ _ 0 _ _ b8
                    simp only [List.getElem?_toArray, List.getElem?_cons_zero] at ct8
                    obtain ⟨t1, t2, t3, _, t5⟩ := field_push (i := 0) H6.out.ds.b4 hv8 hk8 hg8 hna
                    have hwv : ∀ j, j < wl + 1 → (fun j => if j = wl then i else wv j) j < NS := fun j hj => by
                      by_cases e : j = wl
                      · simp only [e, if_true]; exact hlt
                      · simp only [e, if_false]; exact H6.out.ds.hw j (by omega)
                    have t2' := t2.congr (g := fun j _ => .int .i32 (((fun j => if j = wl then i else wv j) j : Nat) : Int)) (by decide) (fun j c _ _ => by
                      by_cases e : j = wl
                      · simp [push, e]
                      · simp [push, e])
                    have H8 : Hid _ := H6.out.wpush HDl.out hp hwv (by omega) (by simpa using t1) t2' t3 t5
                    clear t1 t2 t2' t3 t5 b8 hv8 hk8 hg8 hl8 hna H6 HB6
                    go_wp2
                    go_roundg (NS - (i + 1))
                    case measure => omega
                    case rel => exact ⟨i + 1, _, _, _, _, _, _, _, _, _, by omega, by go_num, rfl, by omega, by omega, H8⟩
                  · have hkb : (sk i == 119) = false := by simpa using hk
                    go_wp2
                    go_roundg (NS - (i + 1))
                    case measure => omega
                    case rel => exact ⟨i + 1, _, _, _, _, _, _, _, _, _, by omega, by go_num, rfl, by omega, by omega, H6⟩
                · have f1 : ¬ (1 : Int) < (f c : Int) := by omega
                  go_wp2
                  go_roundg (NS - (i + 1))
                  case measure => omega
                  case rel => exact ⟨i + 1, _, _, _, _, _, _, _, _, _, by omega, by go_num, rfl, by omega, by omega, H4⟩
              · go_wp2
                go_roundg (NS - (i + 1))
                case measure => omega
                case rel => exact ⟨i + 1, _, _, _, _, _, _, _, _, _, by omega, by go_num, rfl, by omega, by omega, H4⟩
            · obtain rfl : i = NS := by omega
              have q2 : ¬ (i : Int) < (i : Int) := by omega
              obtain ⟨w5, rfl⟩ : ∃ w5, w5 = wr := ⟨_, rfl⟩
              have hmk := run_makeMap (P := Ybaz.prog) 139 w5
              have H6 : Hid _ := (H3.out.keepF (Keep.alloc (fun _ => False) w5 (.map #[] 0))).keepF (Keep.alloc (fun _ => False) (w5.alloc (.map #[] 0)) (.cells #[.map (some w5.heap.size)] 139))
              have HDN0 : Hid (DN w5.heap.size (w5.heap.size + 1) 0 (fun _ => none) 0 ((w5.alloc (.map #[] 0)).alloc (.cells #[.map (some w5.heap.size)] 139))) := by
                refine ⟨?_, ?_, fun x v hv => by simp at hv⟩
                · rw [← intM_none]
                  exact (MP.made w5 21).keep (Keep.alloc (fun _ => False) _ _) id
                · have := heap_alloc_new (w5.alloc (.map #[] 0)) (.cells #[.map (some w5.heap.size)] 139)
                  simpa using this
              have hmbX : ¬ Dx w5.heap.size := fun e => by have := H3.out.dx.lt _ e; omega
              have hmbS : w5.heap.size ≠ SZ := by have := H3.out.szl.1; omega
              have hmbG : bG < w5.heap.size := by have := H3.out.szl; omega
              have c4 := cell_of _ _ 0 _ _ H6.out.ds.b4
              simp only [List.getElem?_toArray, List.getElem?_cons_zero] at c4
              clear H3
              go_upto_region 22 with fail
              clear hmk
              generalize ((w5.alloc (.map #[] 0)).alloc (.cells #[.map (some w5.heap.size)] 139)) = w6 at *
              generalize w5.heap.size = mb at *
              go_wp2
              clear c4
              have HWR : Hid (∀ j, j < wl → wv j < i) := H6.out.ds.hw
              go_loopg [108] wl (fun gk s wr => ∃ (k : Nat) (m : Int → Option Value), k ≤ wl ∧ s = .int .i64 (k : Int) ∧ gk = wl - k ∧ Hid (D3 w D GR bG SZ f u keys p1 p2 p3 p4 p5 p6 SB i sc su sl sk wr Dx ta tl tc tv wa wl wc wv) ∧ Hid (DN mb (mb + 1) k m 0 wr) ∧ Hid (∀ x, (m x).isSome = true → -1 ≤ x ∧ x < 5) ∧ Hid (0 < k → ∃ x, (m x).isSome = true))
              case atStart => exact ⟨0, _, Nat.zero_le _, rfl, rfl, H6, HDN0, fun x hx => by simp at hx, fun q => by omega⟩
              case round => as_aux_lemma =>
                clear H6 HDN0
                obtain ⟨k, m, hk, rfl, rfl, H6, HDN, HMK, HM0⟩ := hrel
                by_cases hlt2 : k < wl
                · have k1 : (k : Int) < (wl : Int) := by omega
                  have k2 : (k : Int).toNat = k := by omega
                  obtain ⟨gw, hgw, hgwl, rw1⟩ := H6.out.ds.vw.blk (by omega)
                  subst hgw
                  have ew : wr.cell? ⟨gw, k, none⟩ = some (.int .i32 (wv k : Int)) := by have := rw1.cell k 0 hlt2 (by omega); simpa using this
                  have hwk := HWR.out k hlt2
                  obtain ⟨e0, e1, e2, e3⟩ := H6.out.ds.sp.cell (wv k) hwk
                  have hun := H6.out.ds.sp.hu (wv k) hwk
                  have er := (HROW.out wr H6.out.pa.k).1.cell (su (wv k)) hun
                  have hgv := HGV.out (su (wv k)) hun
                  have cg := cell_of _ _ 0 _ _ H6.out.pa.g
                  have c5 := cell_of _ _ 0 _ _ H6.out.ds.b5
                  have cd := cell_of _ _ 0 _ _ HDN.out.box
                  have u1 : (su (wv k) : Int) < (u : Int) := by omega
                  have u2 : (su (wv k) : Int).toNat = su (wv k) := by omega
                  have v1 : (wv k : Int) < (i : Int) := by omega
                  have v2 : (wv k : Int).toNat = wv k := by omega
                  simp only [List.getElem?_toArray, List.getElem?_cons_zero] at cg c5 cd
                  obtain ⟨w7, hr7, hd7, hk7⟩ := (HDN.out.keepF ((Keep.refl (fun _ => False) wr).drew)).put (ub' := 0) (by omega) (by omega) (gr (su (wv k))) (gkey _ (by omega)) 0 (Nat.le_refl _) (.inl rfl)
                  have H7 : Hid _ := (H6.out.keepF ((Keep.refl (fun _ => False) wr).drew)).keepM hk7 hmbG hmbS hmbX
                  have HDN7 : Hid _ := hd7
                  have HMK7 : Hid (∀ x, ((fun z => if z = gr (su (wv k)) then some (Value.int .i64 ((0 : Nat) : Int)) else m z) x).isSome = true → -1 ≤ x ∧ x < 5) := fun x hx => by
                    by_cases e : x = gr (su (wv k))
                    · rw [e]; omega
                    · simp only [e, if_false] at hx; exact HMK.out x hx
                  have HM07 : Hid (0 < k + 1 → ∃ x, ((fun z => if z = gr (su (wv k)) then some (Value.int .i64 ((0 : Nat) : Int)) else m z) x).isSome = true) := fun _ => ⟨gr (su (wv k)), by simp⟩
                  simp only [Int.natCast_zero] at hr7
                  clear hd7 hk7 H6 HDN HMK HM0 rw1
                  go_upto_region 25 with fail
                  go_region
                  clear hr7 e0 e1 e2 e3 er cg c5 cd ew
                  go_wp2
                  go_roundg (wl - (k + 1))
                  case measure => omega
                  case rel => exact ⟨k + 1, _, by omega, by go_num, rfl, H7, HDN7, HMK7, HM07⟩
                · obtain rfl : wl = k := by omega
                  have q3 : ¬ (wl : Int) < (wl : Int) := by omega
                  obtain ⟨w7, rfl⟩ : ∃ w7, w7 = wr := ⟨_, rfl⟩
                  obtain ⟨L0, hL0, hmp0⟩ := HDN.out.mp.keys keyed21
                  have hL6 := keys6 hL0 HMK.out
                  have cd := cell_of _ _ 0 _ _ HDN.out.box
                  simp only [List.getElem?_toArray, List.getElem?_cons_zero] at cd
                  have HKY := fun (_ : Unit) => keys56 (some mb) w7
                  have kb := Keep.alloc (fun _ => False) w7 (.cells #[.map (some mb)] 139)
                  have HSO := fun (_ : Unit) => (sorted_any w7.heap.size mb L0.length (intM .i32 m) L0.length (by omega) (fun L hL => Nat.le_of_eq (keys_len hL hL0)) (w7.alloc (.cells #[.map (some mb)] 139)) (heap_alloc_new _ _) (hmp0.keep kb id)).mono (fun e w' h => (⟨h.1, h.2⟩ : RetSorted (w7.alloc (.cells #[.map (some mb)] 139)) w' L0.length e ∧ Hid (Keep (fun _ => False) (w7.alloc (.cells #[.map (some mb)] 139)) w')))
                  have HL0 : Hid _ := hL0
                  have HMP0 : Hid _ := hmp0
                  have HKB : Hid _ := kb
                  clear hL0 hmp0 kb
                  go_wp2_with (first | (go_at_call 56; refine (HKY ()).mono ?_; rintro e w8 ⟨rfl, rfl⟩) | (go_at_call 55; refine (HSO ()).mono ?_; rintro e w9 ⟨⟨xa, xl, xc, xv, rfl, hxr, hxw, hxl⟩, HK9⟩))
                  clear cd HKY HSO
                  have hk79 : Keep (fun _ => False) w7 w9 := HKB.out.trans HK9.out (fun _ q => q.elim)
                  have H9 : Hid _ := H6.out.keepF hk79
                  have HD9 : Hid (DN mb (mb + 1) L0.length m 0 w9) := ⟨HMP0.out.keep hk79 id, hk79.at HDN.out.box id, HDN.out.val⟩
                  have HXR : Hid (0 < xl → ∃ g, xa = some ⟨g, 0, none⟩ ∧ g < w9.heap.size ∧ g ≠ mb ∧ g ≠ mb + 1 ∧ Row w9 g xl (fun i => .int .i32 (xv i))) := fun h0 => by
                    obtain ⟨g, e, h1, h2, h3⟩ := hxr h0
                    have l1 := HMP0.out.lt
                    have l2 := heap_lt HDN.out.box
                    simp at h2
                    exact ⟨g, e, h1, by omega, by omega, h3⟩
                  have HXW : Hid _ := hxw
                  have hxl6 : xl ≤ 6 := by omega
                  clear hxr hxw H6 HDN HMP0 HKB HK9 hk79
                  go_loopg [126] xl (fun gk s wr => ∃ (k : Nat) (m' : Int → Option Value), k ≤ xl ∧ s = .int .i64 (k : Int) ∧ gk = xl - k ∧ Hid (D3 w D GR bG SZ f u keys p1 p2 p3 p4 p5 p6 SB i sc su sl sk wr Dx ta tl tc tv wa wl wc wv) ∧ Hid (DN mb (mb + 1) (L0.length + k) m' xl wr) ∧ Hid (∀ x, (m x).isSome = true → (m' x).isSome = true) ∧ Hid (Keep (fun b => b = mb) w9 wr))
                  case atStart => exact ⟨0, m, Nat.zero_le _, rfl, rfl, H9, ⟨HD9.out.mp, HD9.out.box, fun x v hv => by obtain ⟨y, e1, e2⟩ := HD9.out.val x v hv; exact ⟨y, e1, by omega⟩⟩, fun _ q => q, Keep.refl _ _⟩
                  case round => as_aux_lemma =>
                    clear H9 HD9
                    obtain ⟨k, m', hk', rfl, rfl, H9, HDN, HSUB, HK9⟩ := hrel
                    by_cases hlt3 : k < xl
                    · have k1 : (k : Int) < (xl : Int) := by omega
                      have k2 : (k : Int).toNat = k := by omega
                      obtain ⟨gx, rfl, hgx, hg1, hg2, hrx⟩ := HXR.out (by omega)
                      have ex := (HK9.out.cell ⟨gx, k, none⟩ hgx hg1).trans (hrx.cell k hlt3)
                      have cd := cell_of _ _ 0 _ _ HDN.out.box
                      simp only [List.getElem?_toArray, List.getElem?_cons_zero] at cd
                      have hky := Maps.keyOf_int_mk Ybaz.underlying21 (HXW.out k hlt3)
                      obtain ⟨w10, hr10, hd10, hk10⟩ := HDN.out.put (ub' := xl) (by omega) (by omega) (xv k) hky k (Nat.le_refl _) (.inr hlt3)
                      have H10 : Hid _ := H9.out.keepM hk10 hmbG hmbS hmbX
                      have HD10 : Hid _ := hd10
                      have HS10 : Hid (∀ x, (m x).isSome = true → ((fun z => if z = xv k then some (Value.int .i64 (k : Int)) else m' z) x).isSome = true) := fun x hx => by
                        by_cases e : x = xv k
                        · simp [e]
                        · simp only [e, if_false]; exact HSUB.out x hx
                      have HK10 : Hid (Keep (fun b => b = mb) w9 w10) := HK9.out.trans hk10 (fun _ q => .inl q)
                      clear hd10 hk10 H9 HDN HSUB HK9 hky hrx
                      go_wp2
                      clear hr10 cd ex
                      go_roundg (xl - (k + 1))
                      case measure => omega
                      case rel => exact ⟨k + 1, _, by omega, by go_num, rfl, H10, HD10, HS10, HK10⟩
                    · obtain rfl : xl = k := by omega
                      have q4 : ¬ (xl : Int) < (xl : Int) := by omega
                      obtain ⟨w10, rfl⟩ : ∃ w10, w10 = wr := ⟨_, rfl⟩
                      have c4 := cell_of _ _ 0 _ _ H9.out.ds.b4
                      have c6 := cell_of _ _ 0 _ _ H9.out.ds.b6
                      simp only [List.getElem?_toArray, List.getElem?_cons_zero] at c4 c6
                      have hp5 := H9.out.ds.b5
                      have HBU := fun (_ : Unit) => (bucketed_any (.slice wa wl wc) wl keys (fun j => (wv j : Int)) (fun j => sl (wv j)) 58 #[.pointer (some ⟨p5, 0, none⟩)] (if i = 0 then 1 else (i : Int)) w10 cf58 (by omega) (by omega) H9.out.ds.vw.src1 (fun j hj => H9.out.ds.sp.hl _ (HWR.out j hj)) (fun W kW j hj => bucket1 p5 SB i sc u keys su sl _ sk W (H9.out.ds.sp.keep kW id) (kW.at hp5 id) (wv j) (HWR.out j hj)) (by split <;> omega) (fun j hj => by have := HWR.out j hj; rw [if_neg (by omega)]; omega)).mono (fun e w' h => (⟨h.1, h.2⟩ : BuckOut w10 w' wl keys (if i = 0 then 1 else (i : Int)) e ∧ Hid (Keep (fun _ => False) w10 w')))
                      have hmf : ∀ fn first cap w, (Instr.makeFunc fn first cap).run Ybaz.prog w = .ok (.func fn first cap) w := fun _ _ _ _ => rfl
                      clear hp5
                      have hp4l := heap_lt H9.out.ds.b4
                      have HB4 : Hid _ := H9.out.ds.b4
                      have HBF : Hid (∀ w' : World, Keep (fun _ => False) w10 w' → w'.cell? ⟨p4, 0, none⟩ = some (.slice wa wl wc) ∧ w'.frozen? ⟨p4, 0, none⟩ = false) := fun w' k => ⟨cell_of _ _ 0 _ _ (k.at HB4.out id), free_of _ _ 0 _ _ (k.at HB4.out id)⟩
                      go_upto_region 33 with (go_at_call 57; refine (HBU ()).mono ?_; clear HBU; rintro e w11 ⟨⟨SO, ST, so, st, rfl, s1, s2, s3, s4, s5, s6, s7, s8, s9, s10⟩, HK11⟩; obtain ⟨cb4, fb4⟩ := HBF.out w11 HK11.out)
                      obtain ⟨wv2, h12⟩ := H9.out.buck HDl.out hp hNS (L := if i = 0 then 1 else (i : Int)) (fun h0 => by rw [if_neg (by omega)]) SO so s1 s3 s6 s10 HK11.out
                      have H12 : Hid _ := h12
                      have hmp4 : ¬ mb = p4 := fun e => hmbX (e ▸ H9.out.ds.d.2.2.2.1)
                      have hbp4 : ¬ mb + 1 = p4 := fun e => ne_of_types HDN.out.box HB4.out (by decide) e
                      have kS := Keep.setCell w11 ⟨p4, 0, none⟩ (.slice (some ⟨SO, 0, none⟩) wl wl)
                      have HDN12 : Hid (DN mb (mb + 1) (L0.length + xl) m' xl (w11.setCell ⟨p4, 0, none⟩ (.slice (some ⟨SO, 0, none⟩) wl wl))) := ⟨(HDN.out.mp.keep HK11.out id).keep kS hmp4, kS.at (HK11.out.at HDN.out.box id) hbp4, HDN.out.val⟩
                      have hmbX2 : ¬ (Dx mb ∨ mb = SO) := by
                        have := HDN.out.mp.lt
                        rintro (e | e)
                        · exact hmbX e
                        · omega
                      clear h12 s1 s2 s3 s4 s5 s6 s7 s8 s9 s10 H9 HDN HB4 HBF HK11 kS cb4 fb4 c4 c6 hbp4 hmp4
                      generalize w11.setCell ⟨p4, 0, none⟩ (.slice (some ⟨SO, 0, none⟩) wl wl) = w12 at *
                      obtain ⟨L', hL', hle', hlen⟩ := HDN12.out.mp.len keyed21 (e := 3) (t := 139) Ybaz.underlying139
                      have hxL : xl ≤ L'.length := Nat.le_trans hxl (keys_le HL0.out hL' (fun l hl => by
                        obtain ⟨x, rfl, hx⟩ := intM_some hl
                        rw [intM_int]
                        exact HSUB.out x hx))
                      have hpos : 0 < wl → 0 < L'.length := fun h0 => by
                        obtain ⟨x, hx⟩ := HM0.out h0
                        have := (hL'.2 (.int .i32 x)).2 (by rw [intM_int]; exact HSUB.out x hx)
                        exact List.length_pos_of_mem this
                      obtain ⟨bk, hbk⟩ : ∃ bk : Int → Nat, ∀ x, (m' x).getD (.int .i64 0) = .int .i64 (bk x : Int) ∧ (0 < wl → bk x < L'.length) := by
                        have h : ∀ x, ∃ y : Nat, (m' x).getD (.int .i64 0) = .int .i64 (y : Int) ∧ (0 < wl → y < L'.length) := fun x => by
                          cases e : m' x with
                          | none => exact ⟨0, by simp, fun h0 => hpos h0⟩
                          | some v =>
                            obtain ⟨y, e1, e2⟩ := HDN12.out.val x v e
                            exact ⟨y, by rw [e1]; rfl, fun h0 => by have := hpos h0; omega⟩
                        exact ⟨fun x => Classical.choose (h x), fun x => Classical.choose_spec (h x)⟩
                      have c4 := cell_of _ _ 0 _ _ H12.out.ds.b4
                      have cd := cell_of _ _ 0 _ _ HDN12.out.box
                      simp only [List.getElem?_toArray, List.getElem?_cons_zero] at c4 cd
                      have hw2 := H12.out.ds.hw
                      have HBU := fun (_ : Unit) => (bucketed_any (.slice (some ⟨SO, 0, none⟩) wl wl) wl L'.length (fun j => (wv2 j : Int)) (fun j => bk (gr (su (wv2 j)))) 59 #[.pointer (some ⟨mb + 1, 0, none⟩), .pointer (some ⟨bG, 0, none⟩), .pointer (some ⟨p5, 0, none⟩)] (if i = 0 then 1 else (i : Int)) w12 cf59 (by omega) (by omega) H12.out.ds.vw.src1 (fun j hj => (hbk _).2 (by omega)) (fun W kW j hj => bucket2 (mb + 1) mb (L0.length + xl) bG GR p5 SB i sc u keys gr m' su sl _ sk (wv2 j) (bk (gr (su (wv2 j)))) W (H12.out.ds.sp.keep kW id) hn (kW.at H12.out.ds.b5 id) (kW.at H12.out.pa.g id) ((HROW.out w12 H12.out.pa.k).1.keep (kW.block GR (HROW.out w12 H12.out.pa.k).2 id)) HGV.out (kW.at HDN12.out.box id) (HDN12.out.mp.keep kW id) (hw2 j hj) (hbk _).1) (by split <;> omega) (fun j hj => by have := hw2 j hj; rw [if_neg (by omega)]; omega)).mono (fun e w' h => (⟨h.1, h.2⟩ : BuckOut w12 w' wl L'.length (if i = 0 then 1 else (i : Int)) e ∧ Hid (Keep (fun _ => False) w12 w')))
                      have HB4 : Hid _ := H12.out.ds.b4
                      have HBF : Hid (∀ w' : World, Keep (fun _ => False) w12 w' → w'.cell? ⟨p4, 0, none⟩ = some (.slice (some ⟨SO, 0, none⟩) wl wl) ∧ w'.frozen? ⟨p4, 0, none⟩ = false) := fun w' k => ⟨cell_of _ _ 0 _ _ (k.at HB4.out id), free_of _ _ 0 _ _ (k.at HB4.out id)⟩
                      have HL' : Hid _ := hL'
                      clear hL' hpos hbk hw2
                      go_wp2_with (go_at_call 57; refine (HBU ()).mono ?_; clear HBU; rintro e w13 ⟨⟨SO2, ST2, so2, st2, rfl, s1, s2, s3, s4, s5, s6, s7, s8, s9, s10⟩, HK13⟩; obtain ⟨cb4, fb4⟩ := HBF.out w13 HK13.out)
                      obtain ⟨wv3, h14⟩ := H12.out.buck HDl.out hp hNS (L := if i = 0 then 1 else (i : Int)) (fun h0 => by rw [if_neg (by omega)]) SO2 so2 s1 s3 s6 s10 HK13.out
                      clear s1 s2 s3 s4 s5 s7 s8 s9 s10 cb4 fb4
                      go_meet
                      refine ⟨fun b => ((Dx b ∨ b = SO) ∨ b = SO2) ∨ b = bG, ta, tl, tc, tv, some ⟨SO2, 0, none⟩, wl, wl, wv3, ?_, ?_, ?_⟩
                      · exact h14.ds.keep (Keep.refl (fun _ => False) _) (fun _ _ q => q) (fun _ q => .inl q)
                      · refine HST.out w _ D _ HYI.out h14.pa.k (fun b q => ?_)
                        rcases q with q | q
                        · have hl := h14.dx.lt b q
                          rcases h14.dx.dn b q with r | r
                          · exact .inl r
                          · exact .inr ⟨by omega, hl⟩
                        · exact .inr ⟨by omega, by rw [q]; exact heap_lt h14.pa.g⟩
                      · refine ⟨h14.pa.g, .inr rfl, fun b q => .inl (h14.dx.up b q), fun b q => ?_, fun b q => ?_⟩
                        · rcases q with q | q
                          · rcases h14.dx.dn b q with r | r
                            · exact .inl r
                            · exact .inr (by omega)
                          · exact .inr (by omega)
                        · rcases q with q | q
                          · exact h14.dx.lt b q
                          · rw [q]; exact heap_lt h14.pa.g
  case rest => as_aux_lemma =>
    clear HDS1 HPA hsz
    obtain ⟨D1, ta, tl, tc, tv, wa, wl, wcp, wv, HDS, HY1, HDM⟩ := hcut
    have r95 := fun W => run_mkv 95 21 (.int .i32 0) 1 4 Ybaz.underlying95 inf21 (by omega) W n (by omega)
    have c2 := cell_of _ _ 0 _ _ HDS.out.b2
    have c2a : (wc.alloc (.cells (mc (.int .i32 0) 1 n) 21)).cell? ⟨p2, 0, none⟩ = some (.int .i64 (n : Int)) := cell_of _ _ 0 _ _ (heap_grow _ HDS.out.b2)
    simp only [List.getElem?_toArray, List.getElem?_cons_zero] at c2
    go_upto_region 34 with fail
    go_cut [23, 24] from 150 to 153 (fun a b wx => ∃ (LW LR : Nat) (D2 : Nat → Prop), a = .slice (some ⟨LW, 0, none⟩) n n ∧ b = .slice (some ⟨LR, 0, none⟩) n n ∧ Hid (DL YI w D GR bG LW LR n keys p1 p2 p3 p4 p5 p6 SB NS sc su sl sk ta tl tc tv wa wl wcp wv wx D2))
    case first => as_aux_lemma =>
      have hwz : w.heap.size ≤ wc.heap.size := by
        have := HDM.out.lt bG HDM.out.dg
        omega
      go_region
      · go_wp2
        go_meet
        exact ⟨_, _, _, rfl, rfl, DL.start HST.out HDS.out HY1.out HDM.out hwz _ _ (.inl ⟨rfl, rfl⟩)⟩
      · go_wp2
        go_meet
        exact ⟨_, _, _, rfl, rfl, DL.start HST.out HDS.out HY1.out HDM.out hwz _ _ (.inr ⟨rfl, rfl⟩)⟩
    case rest => as_aux_lemma =>
      clear HDS HY1 HDM c2 c2a r95
      obtain ⟨LW, LR, D2, rfl, rfl, HL⟩ := hcut
      have c3 := cell_of _ _ 0 _ _ HL.out.ds.b3
      simp only [List.getElem?_toArray, List.getElem?_cons_zero] at c3
      have HLR := HL.out.ds.lt
      go_wp2
      clear c3
      go_loopg [156] tl (fun gk s wr => ∃ (k : Nat) (D2 : Nat → Prop), k ≤ tl ∧ s = .int .i64 (k : Int) ∧ gk = tl - k ∧ Hid (DL YI w D GR bG LW LR n keys p1 p2 p3 p4 p5 p6 SB NS sc su sl sk ta tl tc tv wa wl wcp wv wr D2))
      case atStart => exact ⟨0, _, Nat.zero_le _, rfl, rfl, HL⟩
      case round => as_aux_lemma =>
        clear HL
        clear D2
        obtain ⟨k, D2, hk, rfl, rfl, HL⟩ := hrel
        by_cases hlt : k < tl
        · have k1 : (k : Int) < (tl : Int) := by omega
          have k2 : (k : Int).toNat = k := by omega
          obtain ⟨gt, rfl, hgt, rt⟩ := HL.out.ds.vt.blk (by omega)
          have et : wr.cell? ⟨gt, k, none⟩ = some (.int .i32 (tv k : Int)) := by have := rt.cell k 0 hlt (by omega); simpa using this
          have htv := HL.out.ds.ht k hlt
          obtain ⟨e0, e1, e2, e3⟩ := HL.out.ds.sp.cell (tv k) htv
          have c5 := cell_of _ _ 0 _ _ HL.out.ds.b5
          simp only [List.getElem?_toArray, List.getElem?_cons_zero] at c5
          simp only [show ((sl (tv k) + 1 : Nat) : Int) = (sl (tv k) : Int) + 1 by omega] at e2
          have v1 : (tv k : Int) < (NS : Int) := by omega
          have v2 : (tv k : Int).toNat = tv k := by omega
          have hwz : w.heap.size ≤ wr.heap.size := by
            have := HL.out.lt bG HL.out.d.1
            omega
          have hLl : LW < wr.heap.size ∧ LR < wr.heap.size := ⟨HL.out.lt LW HL.out.d.2.1, HL.out.lt LR HL.out.d.2.2⟩
          have HL3 : Hid _ := HL.out.more HST.out hwz (.cells #[.int .i64 (su (tv k) : Int), .int .i64 (sl (tv k) : Int), .int .i64 ((sl (tv k) : Int) + 1), .int .u8 (sk (tv k))] 131)
          have HBR : Hid _ := heap_alloc_new wr (.cells #[.int .i64 (su (tv k) : Int), .int .i64 (sl (tv k) : Int), .int .i64 ((sl (tv k) : Int) + 1), .int .u8 (sk (tv k))] 131)
          have hun := HL.out.ds.sp.hu (tv k) htv
          have hskk := HL.out.ds.sp.hk (tv k) htv
          clear rt HL
          go_upto_region 39 with fail
          clear e0 e1 e2 e3 c5 et
          have hwz3 : w.heap.size ≤ (wr.alloc (.cells #[.int .i64 (su (tv k) : Int), .int .i64 (sl (tv k) : Int), .int .i64 ((sl (tv k) : Int) + 1), .int .u8 (sk (tv k))] 131)).heap.size := by simp; omega
          generalize wr.alloc (.cells #[.int .i64 (su (tv k) : Int), .int .i64 (sl (tv k) : Int), .int .i64 ((sl (tv k) : Int) + 1), .int .u8 (sk (tv k))] 131) = w3 at *
          generalize wr.heap.size = bR at *
          have x0 : w3.cell? ⟨bR, 0, none⟩ = some (.int .i64 (su (tv k) : Int)) := cell_of _ _ 0 _ _ HBR.out
          have x1 : w3.cell? ⟨bR, 1, none⟩ = some (.int .i64 (sl (tv k) : Int)) := cell_of _ _ 1 _ _ HBR.out
          have x2 : w3.cell? ⟨bR, 2, none⟩ = some (.int .i64 ((sl (tv k) : Int) + 1)) := cell_of _ _ 2 _ _ HBR.out
          have x3 : w3.cell? ⟨bR, 3, none⟩ = some (.int .u8 (sk (tv k))) := cell_of _ _ 3 _ _ HBR.out
          by_cases hsw : sk (tv k) = 119
          · rw [hsw] at x3
            go_wp2
            go_roundg (tl - (k + 1))
            case measure => omega
            case rel => exact ⟨k + 1, _, by omega, by go_num, rfl, HL3⟩
          · have hs4 : sk (tv k) = 114 := by omega
            rw [hs4] at x3
            go_upto_if 177 with fail
            generalize (bits BinOp.and IntKind.u8 kinds (bits BinOp.or IntKind.u8 2 4) == 0) = kb
            cases kb with
            | true =>
              go_wp2
              go_roundg (tl - (k + 1))
              case measure => omega
              case rel => exact ⟨k + 1, _, by omega, by go_num, rfl, HL3⟩
            | false =>
              have cg := cell_of _ _ 0 _ _ HL3.out.g
              have hrg := (HGR.out w3 _ HL3.out.yi).1
              have er := hrg.cell (su (tv k)) hun
              have u1 : (su (tv k) : Int) < (n : Int) := by omega
              have u2 : (su (tv k) : Int).toNat = su (tv k) := by omega
              simp only [List.getElem?_toArray, List.getElem?_cons_zero] at cg
              have HL4 : Hid _ := HL3.out.more HST.out hwz3 (.cells #[.int .i32 (gr (su (tv k)))] 21)
              have HBC : Hid _ := heap_alloc_new w3 (.cells #[.int .i32 (gr (su (tv k)))] 21)
              have HBR4 : Hid _ := heap_grow (.cells #[.int .i32 (gr (su (tv k)))] 21) HBR.out
              have hwz4 : w.heap.size ≤ (w3.alloc (.cells #[.int .i32 (gr (su (tv k)))] 21)).heap.size := by simp; omega
              have hRC : bR < w3.heap.size := heap_lt HBR.out
              clear hrg HL3 HBR
              go_upto_region 44 with fail
              clear cg er x0 x1 x2 x3
              generalize w3.alloc (.cells #[.int .i32 (gr (su (tv k)))] 21) = w4 at *
              generalize w3.heap.size = bC at *
              have c4 := cell_of _ _ 0 _ _ HL4.out.ds.b4
              have x0 : w4.cell? ⟨bR, 0, none⟩ = some (.int .i64 (su (tv k) : Int)) := cell_of _ _ 0 _ _ HBR4.out
              have x1 : w4.cell? ⟨bR, 1, none⟩ = some (.int .i64 (sl (tv k) : Int)) := cell_of _ _ 1 _ _ HBR4.out
              have x2 : w4.cell? ⟨bR, 2, none⟩ = some (.int .i64 ((sl (tv k) : Int) + 1)) := cell_of _ _ 2 _ _ HBR4.out
              have x3 : w4.cell? ⟨bR, 3, none⟩ = some (.int .u8 (sk (tv k))) := cell_of _ _ 3 _ _ HBR4.out
              rw [hs4] at x3
              simp only [List.getElem?_toArray, List.getElem?_cons_zero] at c4
              have hmf : ∀ fn first cap w, (Instr.makeFunc fn first cap).run Ybaz.prog w = .ok (.func fn first cap) w := fun _ _ _ _ => rfl
              have HBS := fun (_ : Unit) => (bsf_any (.slice wa wl wcp) wl (fun j => (wv j : Int)) (su (tv k)) (sl (tv k)) ((sl (tv k) : Int) + 1) 114 61 #[.pointer (some ⟨bG, 0, none⟩), .pointer (some ⟨p5, 0, none⟩), .pointer (some ⟨bC, 0, none⟩)] w4 (cf Ybaz.func61 (by kernel_rfl) (by kernel_rfl)) (by omega) HL4.out.ds.vw.src1 (fun W kW j hj => cmp3_any bG GR p5 SB NS sc bC n keys gr (gr (su (tv k))) su sl _ sk (su (tv k)) (sl (tv k)) ((sl (tv k) : Int) + 1) 114 (wv j) W (HL4.out.ds.sp.keep kW id) (kW.at HL4.out.ds.b5 id) (kW.at HL4.out.g id) ((HGR.out w4 _ HL4.out.yi).1.keep (kW.block GR (HGR.out w4 _ HL4.out.yi).2 id)) (kW.at HBC.out id) (HL4.out.ds.hw j hj))).mono (fun e w' h => (⟨h.1, h.2⟩ : RetP wl e ∧ Hid (Keep (fun _ => False) w4 w')))
              have HBF : Hid (∀ w' : World, Keep (fun _ => False) w4 w' → w'.cell? ⟨p4, 0, none⟩ = some (.slice wa wl wcp)) := fun w' k => cell_of _ _ 0 _ _ (k.at HL4.out.ds.b4 id)
              go_upto_region 45 with (go_at_call 60; refine (HBS ()).mono ?_; clear HBS; rintro e w5 ⟨⟨pp, fnd, rfl, hpp⟩, HK5⟩; have c4b := HBF.out w5 HK5.out)
              have HL5 : Hid _ := HL4.out.keepF HST.out HK5.out
              have HBR5 : Hid _ := HK5.out.at HBR4.out id
              have HBC5 : Hid _ := HK5.out.at HBC.out id
              have hwz5 : w.heap.size ≤ w5.heap.size := Nat.le_trans hwz4 HK5.out.size
              clear HL4 HBR4 HBC HK5 HBF c4 x0 x1 x2 x3
              have hcap := HL5.out.ds.vw.cap
              have y1 : (pp : Int) ≤ (wl : Int) := by omega
              have y2 : (wl : Int) ≤ (wcp : Int) := by omega
              have y3 : (pp : Int).toNat = pp := by omega
              have y4 : (pp : Int) ≤ (wcp : Int) := by omega
              go_cut [192, 193, 194] from 190 to 194 (fun a b c wx => w5 = wx ∧ ∃ (X : Option Addr) (NX CX : Nat), a = .slice X NX CX ∧ b = .int .i64 (NX : Int) ∧ c = .int .i64 0 ∧ NX = wl - pp ∧ Hid (0 < NX → ∃ gw, wa = some ⟨gw, 0, none⟩ ∧ X = some ⟨gw, pp, none⟩))
              case first => as_aux_lemma =>
                by_cases hcp : wcp = pp
                · have hl0 : wl = pp := by omega
                  subst hcp
                  go_wp2
                  go_meet
                  exact ⟨rfl, _, _, _, rfl, rfl, rfl, by omega, fun q => absurd q (by omega)⟩
                · have hXE : Hid (0 < wl - pp → ∃ gw, wa = some ⟨gw, 0, none⟩ ∧ Option.map (fun x => Addr.add x pp) wa = some ⟨gw, pp, none⟩) := fun q => by
                    obtain ⟨gw, e, _, _⟩ := HL5.out.ds.vw.blk (by omega)
                    refine ⟨gw, e, ?_⟩
                    rw [e]
                    simp [add_none]
                  go_wp2
                  go_meet
                  exact ⟨rfl, _, _, _, rfl, rfl, rfl, rfl, hXE.out⟩
              case rest => as_aux_lemma =>
                obtain ⟨rfl, X, NX, CX, rfl, rfl, rfl, hNX, HX⟩ := hcut
                have HNX : Hid _ := hNX
                have hNXb : NX ≤ 2000 := by omega
                clear c4b hmf hNX
                go_wp2
                go_loopg [194] NX (fun gk s wr => ∃ (j : Nat) (D3 : Nat → Prop), j ≤ NX ∧ s = .int .i64 (j : Int) ∧ gk = NX - j ∧ Hid (DL YI w D GR bG LW LR n keys p1 p2 p3 p4 p5 p6 SB NS sc su sl sk (some ⟨gt, 0, none⟩) tl tc tv wa wl wcp wv wr D3) ∧ Hid (wr.heap[bR]? = some (.cells #[.int .i64 (su (tv k) : Int), .int .i64 (sl (tv k) : Int), .int .i64 ((sl (tv k) : Int) + 1), .int .u8 (sk (tv k))] 131)) ∧ Hid (wr.heap[bC]? = some (.cells #[.int .i32 (gr (su (tv k)))] 21)) ∧ Hid (D3 bR ∧ D3 bC) ∧ Hid (bC ≠ LW ∧ bC ≠ LR ∧ bR ≠ LW ∧ bR ≠ LR))
                case atStart => exact ⟨0, _, Nat.zero_le _, rfl, rfl, HL5, HBR5, HBC5, ⟨.inl (.inr rfl), .inr rfl⟩, ⟨by omega, by omega, by omega, by omega⟩⟩
                case round => as_aux_lemma =>
                  clear HL5 HBR5 HBC5 hwz5
                  obtain ⟨j, D3, hj, rfl, rfl, HL, HBR, HBC, HDD, HNE⟩ := hrel
                  by_cases hlt2 : j < NX
                  · have j1 : (j : Int) < (NX : Int) := by omega
                    have j2 : (j : Int).toNat = j := by omega
                    obtain ⟨gw, rfl, rfl⟩ := HX.out (by omega)
                    obtain ⟨gw', hgw, hgwl, rw0⟩ := HL.out.ds.vw.blk (by have := HNX.out; omega)
                    simp only [Option.some.injEq, Addr.mk.injEq, and_true] at hgw
                    subst hgw
                    have ew : wr.cell? ⟨gw, pp + j, none⟩ = some (.int .i32 (wv (pp + j) : Int)) := by have := rw0.cell (pp + j) 0 (by have := HNX.out; omega) (by omega); simpa using this
                    have hwx := HL.out.ds.hw (pp + j) (by have := HNX.out; omega)
                    generalize wv (pp + j) = wx at *
                    obtain ⟨e0, e1, e2, e3⟩ := HL.out.ds.sp.cell wx hwx
                    have c5 := cell_of _ _ 0 _ _ HL.out.ds.b5
                    simp only [List.getElem?_toArray, List.getElem?_cons_zero] at c5
                    simp only [show ((sl wx + 1 : Nat) : Int) = (sl wx : Int) + 1 by omega] at e2
                    have z1 : (wx : Int) < (NS : Int) := by omega
                    have z2 : (wx : Int).toNat = wx := by omega
                    have hwz : w.heap.size ≤ wr.heap.size := by
                      have := HL.out.lt bG HL.out.d.1
                      omega
                    have HL3 : Hid _ := HL.out.more HST.out hwz (.cells #[.int .i64 (su wx : Int), .int .i64 (sl wx : Int), .int .i64 ((sl wx : Int) + 1), .int .u8 (sk wx)] 131)
                    have HBW : Hid _ := heap_alloc_new wr (.cells #[.int .i64 (su wx : Int), .int .i64 (sl wx : Int), .int .i64 ((sl wx : Int) + 1), .int .u8 (sk wx)] 131)
                    have HBR3 : Hid _ := heap_grow (.cells #[.int .i64 (su wx : Int), .int .i64 (sl wx : Int), .int .i64 ((sl wx : Int) + 1), .int .u8 (sk wx)] 131) HBR.out
                    have HBC3 : Hid _ := heap_grow (.cells #[.int .i64 (su wx : Int), .int .i64 (sl wx : Int), .int .i64 ((sl wx : Int) + 1), .int .u8 (sk wx)] 131) HBC.out
                    have hunw := HL.out.ds.sp.hu wx hwx
                    have hbWl : LW < wr.heap.size ∧ LR < wr.heap.size := ⟨HL.out.lt LW HL.out.d.2.1, HL.out.lt LR HL.out.d.2.2⟩
                    clear rw0 HL HBR HBC
                    go_upto_region 49 with fail
                    clear e0 e1 e2 e3 c5 ew
                    generalize wr.alloc (.cells #[.int .i64 (su wx : Int), .int .i64 (sl wx : Int), .int .i64 ((sl wx : Int) + 1), .int .u8 (sk wx)] 131) = w6 at *
                    generalize wr.heap.size = bW at *
                    have x0 : w6.cell? ⟨bR, 0, none⟩ = some (.int .i64 (su (tv k) : Int)) := cell_of _ _ 0 _ _ HBR3.out
                    have x2 : w6.cell? ⟨bR, 2, none⟩ = some (.int .i64 ((sl (tv k) : Int) + 1)) := cell_of _ _ 2 _ _ HBR3.out
                    have xc : w6.cell? ⟨bC, 0, none⟩ = some (.int .i32 (gr (su (tv k)))) := cell_of _ _ 0 _ _ HBC3.out
                    have y0 : w6.cell? ⟨bW, 0, none⟩ = some (.int .i64 (su wx : Int)) := cell_of _ _ 0 _ _ HBW.out
                    have yy1 : w6.cell? ⟨bW, 1, none⟩ = some (.int .i64 (sl wx : Int)) := cell_of _ _ 1 _ _ HBW.out
                    have cg := cell_of _ _ 0 _ _ HL3.out.g
                    have er := (HGR.out w6 _ HL3.out.yi).1.cell (su wx) hunw
                    have a1 : (su wx : Int) < (n : Int) := by omega
                    have a2 : (su wx : Int).toNat = su wx := by omega
                    simp only [List.getElem?_toArray, List.getElem?_cons_zero] at cg
                    by_cases hgc : gr (su wx) = gr (su (tv k))
                    · have hgb : (gr (su wx) != gr (su (tv k))) = false := by simp [hgc]
                      rw [hgc] at er
                      by_cases hlo : (sl wx : Int) < (sl (tv k) : Int) + 1
                      · have hlb : ¬ ((sl (tv k) : Int) + 1 ≤ (sl wx : Int)) := by omega
                        go_region
                        have HL7 : Hid _ := HL3.out.keepF HST.out ((Keep.refl (fun _ => False) w6).drew)
                        have HBW7 : Hid (w6.drew.heap[bW]? = some (.cells #[.int .i64 (su wx : Int), .int .i64 (sl wx : Int), .int .i64 ((sl wx : Int) + 1), .int .u8 (sk wx)] 131)) := HBW.out
                        have HBR7 : Hid (w6.drew.heap[bR]? = some (.cells #[.int .i64 (su (tv k) : Int), .int .i64 (sl (tv k) : Int), .int .i64 ((sl (tv k) : Int) + 1), .int .u8 (sk (tv k))] 131)) := HBR3.out
                        have HBC7 : Hid (w6.drew.heap[bC]? = some (.cells #[.int .i32 (gr (su (tv k)))] 21)) := HBC3.out
                        clear x0 x2 xc y0 yy1 cg er HL3 HBW HBR3 HBC3 hgb hgc hlo hlb
                        generalize w6.drew = w7 at *
                        have x0 : w7.cell? ⟨bR, 0, none⟩ = some (.int .i64 (su (tv k) : Int)) := cell_of _ _ 0 _ _ HBR7.out
                        have y0 : w7.cell? ⟨bW, 0, none⟩ = some (.int .i64 (su wx : Int)) := cell_of _ _ 0 _ _ HBW7.out
                        go_upto_region 50 with fail
                        go_region
                        have HL8 : Hid _ := HL7.out.keepF HST.out ((Keep.refl (fun _ => False) w7).drew)
                        have HBW8 : Hid (w7.drew.heap[bW]? = some (.cells #[.int .i64 (su wx : Int), .int .i64 (sl wx : Int), .int .i64 ((sl wx : Int) + 1), .int .u8 (sk wx)] 131)) := HBW7.out
                        have HBR8 : Hid (w7.drew.heap[bR]? = some (.cells #[.int .i64 (su (tv k) : Int), .int .i64 (sl (tv k) : Int), .int .i64 ((sl (tv k) : Int) + 1), .int .u8 (sk (tv k))] 131)) := HBR7.out
                        have HBC8 : Hid (w7.drew.heap[bC]? = some (.cells #[.int .i32 (gr (su (tv k)))] 21)) := HBC7.out
                        clear x0 y0 HL7 HBW7 HBR7 HBC7
                        generalize w7.drew = w8 at *
                        have x0 : w8.cell? ⟨bR, 0, none⟩ = some (.int .i64 (su (tv k) : Int)) := cell_of _ _ 0 _ _ HBR8.out
                        have y0 : w8.cell? ⟨bW, 0, none⟩ = some (.int .i64 (su wx : Int)) := cell_of _ _ 0 _ _ HBW8.out
                        go_upto_if 224 with fail
                        go_cut [36, 37, 38, 39] from 224 to 230 (fun a b c d wz => ∃ (dd : Int) (fr t LI : Nat), a = .int .u8 dd ∧ b = .int .i64 (fr : Int) ∧ c = .int .i64 (t : Int) ∧ d = .slice (some ⟨LI, 0, none⟩) n n ∧ Hid (dd = 2 ∨ dd = 4) ∧ fr < n ∧ t < n ∧ Hid (LI = LW ∨ LI = LR) ∧ Hid (Keep (fun _ => False) w8 wz))
                        case first => as_aux_lemma =>
                          by_cases hgt2 : (tv k : Int) < (wx : Int)
                          · go_upto_region 52 with fail
                            go_region
                            go_wp2
                            go_meet
                            exact ⟨4, su (tv k), su wx, LR, rfl, rfl, rfl, rfl, .inr rfl, hun, hunw, .inr rfl, (Keep.refl _ _).drew⟩
                          · go_wp2
                            go_meet
                            exact ⟨2, su wx, su (tv k), LW, rfl, rfl, rfl, rfl, .inl rfl, hunw, hun, .inl rfl, Keep.refl _ _⟩
                        case rest => as_aux_lemma =>
                          obtain ⟨dd, fr, t, LI, rfl, rfl, rfl, rfl, HDDD, hfr, ht, HLI, HKz⟩ := hcut
                          clear x0 y0
                          have HL9 : Hid _ := HL8.out.keepF HST.out HKz.out
                          have HBW9 : Hid _ := HKz.out.at HBW8.out id
                          have HBR9 : Hid _ := HKz.out.at HBR8.out id
                          have HBC9 : Hid _ := HKz.out.at HBC8.out id
                          clear HL8 HBW8 HBR8 HBC8 HKz
                          obtain ⟨w9, rfl⟩ : ∃ w9, w9 = wc := ⟨_, rfl⟩
                          have x0 : w9.cell? ⟨bR, 0, none⟩ = some (.int .i64 (su (tv k) : Int)) := cell_of _ _ 0 _ _ HBR9.out
                          have y0 : w9.cell? ⟨bW, 0, none⟩ = some (.int .i64 (su wx : Int)) := cell_of _ _ 0 _ _ HBW9.out
                          obtain ⟨fL, rL⟩ : ∃ f : Nat → Int, Row w9 LI n (fun i => .int .i32 (f i)) := by
                            rcases HLI.out with e | e
                            · rw [e]; exact HL9.out.rw1
                            · rw [e]; exact HL9.out.rw2
                          have eL := rL.cell (su wx) hunw
                          have zL := rL.free (su wx)
                          have tw : IntKind.i32.wrap ((tv k : Int) + 1) = (tv k : Int) + 1 := by unfold IntKind.wrap; simp [IntKind.bits, IntKind.signed]; omega
                          clear rL
                          by_cases hsame : su wx = su (tv k)
                          · have hsb : (su wx : Int) = (su (tv k) : Int) := by omega
                            rw [hsb] at y0
                            go_wp2
                            go_roundg (NX - (j + 1))
                            case measure => omega
                            case rel => exact ⟨j + 1, _, by omega, by go_num, rfl, HL9, HBR9, HBC9, ⟨.inl HDD.out.1, .inl HDD.out.2⟩, HNE⟩
                          · have hsb : ((su wx : Int) == (su (tv k) : Int)) = false := by simpa using fun e => hsame (by omega)
                            by_cases hkd2 : bits .and .u8 kinds dd = 0
                            · go_wp2
                              go_roundg (NX - (j + 1))
                              case measure => omega
                              case rel => exact ⟨j + 1, _, by omega, by go_num, rfl, HL9, HBR9, HBC9, ⟨.inl HDD.out.1, .inl HDD.out.2⟩, HNE⟩
                            · have hkb2 : (bits .and .u8 kinds dd == 0) = false := by simpa using hkd2
                              by_cases hls : fL (su wx) = (tv k : Int) + 1
                              · rw [hls] at eL
                                go_wp2
                                go_roundg (NX - (j + 1))
                                case measure => omega
                                case rel => exact ⟨j + 1, _, by omega, by go_num, rfl, HL9, HBR9, HBC9, ⟨.inl HDD.out.1, .inl HDD.out.2⟩, HNE⟩
                              · have hlb2 : (fL (su wx) == (tv k : Int) + 1) = false := by simpa using hls
                                have HL10 : Hid _ := HL9.out.set HST.out LI HLI.out (su wx) hunw ((tv k : Int) + 1)
                                have kS := Keep.setCell w9 ⟨LI, su wx, none⟩ (.int .i32 ((tv k : Int) + 1))
                                have hBne : ¬ bR = LI ∧ ¬ bC = LI := by
                                  have := HNE.out
                                  rcases HLI.out with e | e
                                  · rw [e]; exact ⟨this.2.2.1, this.1⟩
                                  · rw [e]; exact ⟨this.2.2.2, this.2.1⟩
                                have HBR10 : Hid _ := kS.at HBR9.out hBne.1
                                have HBC10 : Hid _ := kS.at HBC9.out hBne.2
                                clear kS hBne HL9 HBW9 HBR9 HBC9
                                go_upto_region 55 with fail
                                clear x0 y0 eL zL
                                generalize w9.setCell ⟨LI, su wx, none⟩ (.int .i32 ((tv k : Int) + 1)) = w10 at *
                                have HYC := fun (_ : Unit) => HYL.out w10 _ fr t dd HL10.out.yi hfr ht HDDD.out hkd2
                                go_upto_if 263 with (refine (HYC ()).mono ?_; clear HYC; rintro e w11 ⟨⟨rr, rfl, hrt, hrf⟩, hk11⟩)
                                cases rr with
                                | true =>
                                  have HL11 : Hid _ := HL10.out.yield hk11 (hrt rfl)
                                  have HBR11 : Hid _ := hk11.at HBR10.out (fun q => q (.inl HDD.out.1))
                                  have HBC11 : Hid _ := hk11.at HBC10.out (fun q => q (.inl HDD.out.2))
                                  clear hrt hrf hk11 HL10 HBR10 HBC10
                                  go_wp2
                                  go_roundg (NX - (j + 1))
                                  case measure => omega
                                  case rel => exact ⟨j + 1, _, by omega, by go_num, rfl, HL11, HBR11, HBC11, ⟨.inl HDD.out.1, .inl HDD.out.2⟩, HNE⟩
                                | false =>
                                  have HE : Hid (DepEnd (DEf n keys p1 p2 p3 p4 p5 p6 SB NS sc su sl sk) YI YF GR D w w11) := by
                                    refine ⟨_, .inr (hrf rfl), ⟨fun b q => Nat.lt_of_lt_of_le (HL10.out.lt b q) hk11.size, _, _, _, _, _, _, _, _, HL10.out.ds.keep hk11 (fun b hb q => q hb) (fun _ q => q)⟩, HL10.out.up, HL10.out.dn⟩
                                  clear hrt hrf hk11 HL10 HBR10 HBC10
                                  go_wp2
                                  refine bodyPost_ret (results_none rfl _ _ _) rfl ?_
                                  exact ⟨rfl, HE.out⟩
                      · have hlb : (sl (tv k) : Int) + 1 ≤ (sl wx : Int) := by omega
                        go_region
                        have HL7 : Hid _ := HL3.out.keepF HST.out ((Keep.refl (fun _ => False) w6).drew)
                        clear x0 x2 xc y0 yy1 cg er HL3
                        go_wp2
                        go_roundg (tl - (k + 1))
                        case measure => omega
                        case rel => exact ⟨k + 1, _, by omega, by go_num, rfl, HL7⟩
                    · have hgb : (gr (su wx) != gr (su (tv k))) = true := by simpa using hgc
                      go_region
                      have HL7 : Hid _ := HL3.out.keepF HST.out ((Keep.refl (fun _ => False) w6).drew)
                      clear x0 x2 xc y0 yy1 cg er HL3
                      go_wp2
                      go_roundg (tl - (k + 1))
                      case measure => omega
                      case rel => exact ⟨k + 1, _, by omega, by go_num, rfl, HL7⟩
                  · have q2 : ¬ (j : Int) < (NX : Int) := by omega
                    go_wp2
                    go_roundg (tl - (k + 1))
                    case measure => omega
                    case rel => exact ⟨k + 1, _, by omega, by go_num, rfl, HL⟩
        · have q1 : ¬ (k : Int) < (tl : Int) := by omega
          have HE : Hid (DepEnd (DEf n keys p1 p2 p3 p4 p5 p6 SB NS sc su sl sk) YI YF GR D w wr) := ⟨D2, .inl HL.out.yi, ⟨HL.out.lt, ta, tl, tc, tv, wa, wl, wcp, wv, HL.out.ds⟩, HL.out.up, HL.out.dn⟩
          go_wp2
          go_end0
          exact ⟨rfl, HE.out⟩
end Go.Proofs.YbulkdvbsGreat

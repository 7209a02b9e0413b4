/-
  rigorous: the last writers (newLastWriters, at, set, only), walked.
-/
import Derived.Test.YbulkdvbsGreatKeys
import Derived.Test.YbulkdvbsGreatWriters
namespace Go.Proofs.YbulkdvbsGreat
open Go.RowKit
attribute [local go_sem ↓] exec_make62

/-- The greatest int. -/
def maxI : Int := 9223372036854775807
/-- The last writers, in block LB: own x holds key x, or 0. -/
structure LWt (w : World) (LB LO HI m : Nat) (own : Nat → Nat) : Prop where
  blk : w.heap[LB]? = some (.cells #[.slice (some ⟨LO, 0, none⟩) (m + m) (m + m), .slice (some ⟨HI, 0, none⟩) (m + m) (m + m)] 193)
  lo : ∃ f : Nat → Int, Row w LO (m + m) (fun i => .int .i64 (f i)) ∧ ∀ x, x < m → f (m + x) = if own x = 0 then maxI else (own x : Int)
  hi : ∃ f : Nat → Int, Row w HI (m + m) (fun i => .int .i64 (f i)) ∧ ∀ x, x < m → f (m + x) = (own x : Int)
  lt : LO < w.heap.size ∧ HI < w.heap.size
  ne : LO ≠ HI ∧ LB ≠ LO ∧ LB ≠ HI
theorem LWt.keep {w w' : World} {LB LO HI m : Nat} {own : Nat → Nat} (h : LWt w LB LO HI m own) {F : Nat → Prop} (k : Keep F w w') (h1 : ¬ F LB) (h2 : ¬ F LO) (h3 : ¬ F HI) : LWt w' LB LO HI m own := by
  obtain ⟨f, r, hf⟩ := h.lo
  obtain ⟨g, s, hg⟩ := h.hi
  exact ⟨k.at h.blk h1, ⟨f, r.keep (k.block LO h.lt.1 h2), hf⟩, ⟨g, s.keep (k.block HI h.lt.2 h3), hg⟩, ⟨Nat.lt_of_lt_of_le h.lt.1 k.size, Nat.lt_of_lt_of_le h.lt.2 k.size⟩, h.ne⟩
/-- What newLastWriters answers. -/
def RetLW (w w' : World) (m : Nat) (e : Ending) : Prop := ∃ LB LO HI, e = .returned (.pointer (some ⟨LB, 0, none⟩)) ∧ LWt w' LB LO HI m (fun _ => 0) ∧ w.heap.size ≤ LB ∧ w.heap.size ≤ LO ∧ w.heap.size ≤ HI
/-- The rows, while they are laid. -/
structure NL (w : World) (LB LO HI m s : Nat) (wr : World) : Prop where
  blk : wr.heap[LB]? = some (.cells #[.slice (some ⟨LO, 0, none⟩) (m + m) (m + m), .slice (some ⟨HI, 0, none⟩) (m + m) (m + m)] 193)
  lo : ∃ f : Nat → Int, Row wr LO (m + m) (fun i => .int .i64 (f i)) ∧ ∀ x, x < s → f x = maxI
  hi : Row wr HI (m + m) (fun _ => .int .i64 0)
  lt : LO < wr.heap.size ∧ HI < wr.heap.size
  ne : LO ≠ HI ∧ LB ≠ LO ∧ LB ≠ HI
  new : w.heap.size ≤ LB ∧ w.heap.size ≤ LO ∧ w.heap.size ≤ HI
  keep : Keep (fun _ => False) w wr
theorem NL.start (w : World) (m LO HI : Nat) (hL : LO = w.heap.size ∧ HI = w.heap.size + 1 ∨ LO = w.heap.size + 1 ∧ HI = w.heap.size) :
    NL w (w.heap.size + 2) LO HI m 0 ((((w.alloc (.cells (mc (.int .i64 0) 1 (m + m)) 3)).alloc (.cells (mc (.int .i64 0) 1 (m + m)) 3)).alloc (.cells #[.slice (some ⟨LO, 0, none⟩) (m + m) (m + m), .slice (some ⟨HI, 0, none⟩) (m + m) (m + m)] 193)).drew) := by
  have k1 := Keep.alloc (fun _ => False) w (.cells (mc (.int .i64 0) 1 (m + m)) 3)
  have k2 := Keep.alloc (fun _ => False) (w.alloc (.cells (mc (.int .i64 0) 1 (m + m)) 3)) (.cells (mc (.int .i64 0) 1 (m + m)) 3)
  have k3 := Keep.alloc (fun _ => False) ((w.alloc (.cells (mc (.int .i64 0) 1 (m + m)) 3)).alloc (.cells (mc (.int .i64 0) 1 (m + m)) 3)) (.cells #[.slice (some ⟨LO, 0, none⟩) (m + m) (m + m), .slice (some ⟨HI, 0, none⟩) (m + m) (m + m)] 193)
  have e1 : (w.alloc (.cells (mc (.int .i64 0) 1 (m + m)) 3)).heap.size = w.heap.size + 1 := World.size_alloc _ _
  have e2 : ((w.alloc (.cells (mc (.int .i64 0) 1 (m + m)) 3)).alloc (.cells (mc (.int .i64 0) 1 (m + m)) 3)).heap.size = w.heap.size + 2 := by rw [World.size_alloc, e1]
  have b1 := k3.at (k2.at (heap_alloc_new w (.cells (mc (.int .i64 0) 1 (m + m)) 3)) id) id
  have b2 : (((w.alloc (.cells (mc (.int .i64 0) 1 (m + m)) 3)).alloc (.cells (mc (.int .i64 0) 1 (m + m)) 3)).alloc (.cells #[.slice (some ⟨LO, 0, none⟩) (m + m) (m + m), .slice (some ⟨HI, 0, none⟩) (m + m) (m + m)] 193)).heap[w.heap.size + 1]? = some (.cells (mc (.int .i64 0) 1 (m + m)) 3) := by
    have := heap_alloc_new (w.alloc (.cells (mc (.int .i64 0) 1 (m + m)) 3)) (.cells (mc (.int .i64 0) 1 (m + m)) 3)
    rw [e1] at this
    exact k3.at this id
  have b3 := heap_alloc_new ((w.alloc (.cells (mc (.int .i64 0) 1 (m + m)) 3)).alloc (.cells (mc (.int .i64 0) 1 (m + m)) 3)) (.cells #[.slice (some ⟨LO, 0, none⟩) (m + m) (m + m), .slice (some ⟨HI, 0, none⟩) (m + m) (m + m)] 193)
  rw [e2] at b3
  have r1 := Row.made1 _ _ (m + m) (.int .i64 0) 3 rfl b1
  have r2 := Row.made1 _ _ (m + m) (.int .i64 0) 3 rfl b2
  have l3 := heap_lt b3
  have d : ∀ {L : Nat} {f : Nat → Value}, Row (((w.alloc (.cells (mc (.int .i64 0) 1 (m + m)) 3)).alloc (.cells (mc (.int .i64 0) 1 (m + m)) 3)).alloc (.cells #[.slice (some ⟨LO, 0, none⟩) (m + m) (m + m), .slice (some ⟨HI, 0, none⟩) (m + m) (m + m)] 193)) L (m + m) f → Row ((((w.alloc (.cells (mc (.int .i64 0) 1 (m + m)) 3)).alloc (.cells (mc (.int .i64 0) 1 (m + m)) 3)).alloc (.cells #[.slice (some ⟨LO, 0, none⟩) (m + m) (m + m), .slice (some ⟨HI, 0, none⟩) (m + m) (m + m)] 193)).drew) L (m + m) f := fun r => r.keep rfl
  have ls : w.heap.size + 2 < ((((w.alloc (.cells (mc (.int .i64 0) 1 (m + m)) 3)).alloc (.cells (mc (.int .i64 0) 1 (m + m)) 3)).alloc (.cells #[.slice (some ⟨LO, 0, none⟩) (m + m) (m + m), .slice (some ⟨HI, 0, none⟩) (m + m) (m + m)] 193)).drew).heap.size := l3
  refine ⟨b3, ?_, ?_, ⟨by omega, by omega⟩, ⟨by omega, by omega, by omega⟩, ⟨by omega, by omega, by omega⟩, ((k1.trans k2 (fun _ q => q.elim)).trans k3 (fun _ q => q.elim)).drew⟩
  · rcases hL with ⟨rfl, rfl⟩ | ⟨rfl, rfl⟩
    · exact ⟨_, d r1, fun x hx => by omega⟩
    · exact ⟨_, d r2, fun x hx => by omega⟩
  · rcases hL with ⟨rfl, rfl⟩ | ⟨rfl, rfl⟩
    · exact d r2
    · exact d r1
set_option maxHeartbeats 4000000 in
set_option maxRecDepth 100000 in
theorem newLW_any (m : Nat) (w : World) (hm : m ≤ 3) : Calls Ybaz.prog 42 #[.int .i64 (m : Int)] w fun e w' => RetLW w w' m e ∧ Keep (fun _ => False) w w' := by
  have m1 : (m : Int) ≤ 3 := by omega
  have r62 : ∀ W, (opMk 62 (.int .i64 (2 * (m : Int))) (.int .i64 (2 * (m : Int)))).run Ybaz.prog W = .ok (.value (.slice (some ⟨W.heap.size, 0, none⟩) (m + m) (m + m))) (W.alloc (.cells (mc (.int .i64 0) 1 (m + m)) 3)) := fun W => by
    have := run_mkv 62 3 (.int .i64 0) 1 8 Ybaz.underlying62 inf3 (by omega) W (m + m) (by omega)
    rw [show ((m + m : Nat) : Int) = 2 * (m : Int) by omega] at this
    exact this
  go_enter Ybaz.func42, Ybaz.ntmps42
  go_upto_region 1 with fail
  go_cut [3] from 5 to 12 (fun a wx => ∃ LB LO HI, a = .pointer (some ⟨LB, 0, none⟩) ∧ Hid (NL w LB LO HI m 0 wx))
  case first =>
    go_region
    all_goals go_wp2
    all_goals go_meet
    · exact ⟨_, _, _, rfl, NL.start w m _ _ (.inl ⟨rfl, rfl⟩)⟩
    · exact ⟨_, _, _, rfl, NL.start w m _ _ (.inr ⟨rfl, rfl⟩)⟩
  case rest =>
    obtain ⟨LB, LO, HI, rfl, HN⟩ := hcut
    have c0 := cell_of _ _ 0 _ _ HN.out.blk
    simp only [List.getElem?_toArray, List.getElem?_cons_zero] at c0
    clear r62
    go_wp2
    clear c0
    go_loopg [18] (m + m) (fun gk s wr => ∃ k : Nat, k ≤ m + m ∧ s = .int .i64 (k : Int) ∧ gk = m + m - k ∧ Hid (NL w LB LO HI m k wr))
    case atStart => exact ⟨0, Nat.zero_le _, rfl, rfl, HN⟩
    case round =>
      clear HN
      obtain ⟨k, hk, rfl, rfl, HN⟩ := hrel
      by_cases hlt : k < m + m
      · have k1 : (k : Int) < (m : Int) + (m : Int) := by omega
        have k1' : (k : Int) < ((m + m : Nat) : Int) := by omega
        have k2 : (k : Int).toNat = k := by omega
        have c0 := cell_of _ _ 0 _ _ HN.out.blk
        simp only [List.getElem?_toArray, List.getElem?_cons_zero] at c0
        obtain ⟨f, r, hf⟩ := HN.out.lo
        have e0 := r.cell k hlt
        have z0 := r.free k
        have hk6 : (k : Int) ≤ 6 := by omega
        have HN2 : Hid (NL w LB LO HI m (k + 1) (wr.setCell ⟨LO, k, none⟩ (.int .i64 9223372036854775807))) := by
          have kS := Keep.setCell wr ⟨LO, k, none⟩ (.int .i64 9223372036854775807)
          have hne := HN.out.ne
          refine ⟨kS.at HN.out.blk hne.2.1, ⟨fun i => if i = k then 9223372036854775807 else f i, (r.set k _ hlt).congr (fun i _ => by by_cases e : i = k <;> simp [e]), fun x hx => ?_⟩, HN.out.hi.keep (kS.block HI HN.out.lt.2 (Ne.symm hne.1)), ⟨Nat.lt_of_lt_of_le HN.out.lt.1 kS.size, Nat.lt_of_lt_of_le HN.out.lt.2 kS.size⟩, hne, HN.out.new, HN.out.keep.trans kS (fun b (e : b = LO) => .inr (by have := HN.out.new; omega))⟩
          by_cases e : x = k
          · simp [e, maxI]
          · simp only [e, if_false]; exact hf x (by omega)
        clear r hf HN
        go_wp2
        clear c0 e0 z0
        generalize wr.setCell ⟨LO, k, none⟩ (.int .i64 9223372036854775807) = w3 at *
        go_roundg (m + m - (k + 1))
        case measure => omega
        case rel => exact ⟨k + 1, by omega, by go_num, rfl, HN2⟩
      · obtain rfl : k = m + m := by omega
        have HF : Hid (RetLW w wr m (.returned (.pointer (some ⟨LB, 0, none⟩)))) := by
          obtain ⟨f, r, hf⟩ := HN.out.lo
          exact ⟨LB, LO, HI, rfl, ⟨HN.out.blk, ⟨f, r, fun x hx => by rw [hf (m + x) (by omega)]; simp⟩, ⟨_, HN.out.hi, fun x hx => by simp⟩, HN.out.lt, HN.out.ne⟩, HN.out.new⟩
        have HKw : Hid _ := HN.out.keep
        have q1 : ¬ ((m + m : Nat) : Int) < ((m + m : Nat) : Int) := by omega
        clear HN
        go_wp2
        go_ret
        exact ⟨HF.out, HKw.out⟩
set_option maxHeartbeats 4000000 in
set_option maxRecDepth 100000 in
/-- lastWriters.at. -/
theorem lwat_any (LB LO HI m x : Nat) (own : Nat → Nat) (w : World) (h : LWt w LB LO HI m own) (hm : m ≤ 3) (hx : x < m) : Calls Ybaz.prog 48 #[.pointer (some ⟨LB, 0, none⟩), .int .i64 (x : Int)] w fun e w' => e = .returned (.int .i64 (own x : Int)) ∧ Keep (fun _ => False) w w' := by
  obtain ⟨f, r, hf⟩ := h.hi
  have c1 : w.cell? ⟨LB, 1, none⟩ = some (.slice (some ⟨HI, 0, none⟩) (m + m) (m + m)) := cell_of _ _ 1 _ _ h.blk
  have e0 := r.cell (m + x) (by omega)
  rw [hf x hx] at e0
  have m1 : (m : Int) ≤ 3 := by omega
  have i1 : (x : Int) < (m : Int) := by omega
  have d2 : ((m : Int) + (m : Int)).tdiv 2 = (m : Int) := by rw [Int.tdiv_eq_ediv_of_nonneg (by omega)]; omega
  have x1 : (m : Int) + (x : Int) < (m : Int) + (m : Int) := by omega
  have x2 : ((m : Int) + (x : Int)).toNat = m + x := by omega
  have x3 : (0 : Int) ≤ (m : Int) + (x : Int) := by omega
  have HK : Hid _ := (Keep.refl (fun _ => False) w).drew
  clear h r hf
  go_enter Ybaz.func48, Ybaz.ntmps48
  go_upto_region 1 with fail
  go_region
  go_wp2
  go_ret
  exact ⟨rfl, HK.out⟩
/-- The two rows, bare. -/
structure LWr (w : World) (LB LO HI m : Nat) (f g : Nat → Int) : Prop where
  blk : w.heap[LB]? = some (.cells #[.slice (some ⟨LO, 0, none⟩) (m + m) (m + m), .slice (some ⟨HI, 0, none⟩) (m + m) (m + m)] 193)
  lo : Row w LO (m + m) (fun i => .int .i64 (f i))
  hi : Row w HI (m + m) (fun i => .int .i64 (g i))
  lt : LO < w.heap.size ∧ HI < w.heap.size
  ne : LO ≠ HI ∧ LB ≠ LO ∧ LB ≠ HI
/-- f at one place. -/
def fset (f : Nat → Int) (s : Nat) (a : Int) : Nat → Int := fun i => if i = s then a else f i
theorem LWr.setlo {w : World} {LB LO HI m : Nat} {f g : Nat → Int} (h : LWr w LB LO HI m f g) (s : Nat) (hs : s < m + m) (a : Int) : LWr (w.setCell ⟨LO, s, none⟩ (.int .i64 a)) LB LO HI m (fset f s a) g ∧ Keep (fun k => k = LO ∨ k = HI) w (w.setCell ⟨LO, s, none⟩ (.int .i64 a)) := by
  have k := Keep.setCell w ⟨LO, s, none⟩ (.int .i64 a)
  exact ⟨⟨k.at h.blk h.ne.2.1, (h.lo.set s _ hs).congr (fun i _ => by by_cases e : i = s <;> simp [fset, e]), h.hi.keep (k.block HI h.lt.2 (Ne.symm h.ne.1)), ⟨Nat.lt_of_lt_of_le h.lt.1 k.size, Nat.lt_of_lt_of_le h.lt.2 k.size⟩, h.ne⟩, k.wide (fun _ e => .inl e)⟩
theorem LWr.sethi {w : World} {LB LO HI m : Nat} {f g : Nat → Int} (h : LWr w LB LO HI m f g) (s : Nat) (hs : s < m + m) (a : Int) : LWr (w.setCell ⟨HI, s, none⟩ (.int .i64 a)) LB LO HI m f (fset g s a) ∧ Keep (fun k => k = LO ∨ k = HI) w (w.setCell ⟨HI, s, none⟩ (.int .i64 a)) := by
  have k := Keep.setCell w ⟨HI, s, none⟩ (.int .i64 a)
  exact ⟨⟨k.at h.blk h.ne.2.2, h.lo.keep (k.block LO h.lt.1 h.ne.1), (h.hi.set s _ hs).congr (fun i _ => by by_cases e : i = s <;> simp [fset, e]), ⟨Nat.lt_of_lt_of_le h.lt.1 k.size, Nat.lt_of_lt_of_le h.lt.2 k.size⟩, h.ne⟩, k.wide (fun _ e => .inr e)⟩
theorem LWr.drew {w : World} {LB LO HI m : Nat} {f g : Nat → Int} (h : LWr w LB LO HI m f g) : LWr w.drew LB LO HI m f g := ⟨h.blk, h.lo.keep rfl, h.hi.keep rfl, h.lt, h.ne⟩
theorem LWt.raw {w : World} {LB LO HI m : Nat} {own : Nat → Nat} (h : LWt w LB LO HI m own) : ∃ f g, LWr w LB LO HI m f g ∧ (∀ x, x < m → f (m + x) = if own x = 0 then maxI else (own x : Int)) ∧ ∀ x, x < m → g (m + x) = (own x : Int) := by
  obtain ⟨f, r, hf⟩ := h.lo
  obtain ⟨g, t, hg⟩ := h.hi
  exact ⟨f, g, ⟨h.blk, r, t, h.lt, h.ne⟩, hf, hg⟩
/-- The rows, and the leaves as they shall be. -/
structure LWs (w0 : World) (LB LO HI m : Nat) (own : Nat → Nat) (w : World) : Prop where
  t : LWt w LB LO HI m own
  k : Keep (fun k => k = LO ∨ k = HI) w0 w
/-- An inner place is written. -/
theorem LWs.inner {w0 : World} {LB LO HI m : Nat} {own : Nat → Nat} {w : World} (h : LWs w0 LB LO HI m own w) (s : Nat) (hs : s < m) (a b : Int) : LWs w0 LB LO HI m own (((w.setCell ⟨LO, s, none⟩ (.int .i64 a)).setCell ⟨HI, s, none⟩ (.int .i64 b)).drew) := by
  obtain ⟨f, g, r, hf, hg⟩ := h.t.raw
  obtain ⟨r1, k1⟩ := r.setlo s (by omega) a
  obtain ⟨r2, k2⟩ := r1.sethi s (by omega) b
  have r3 := r2.drew
  refine ⟨⟨r3.blk, ⟨_, r3.lo, fun x hx => ?_⟩, ⟨_, r3.hi, fun x hx => ?_⟩, r3.lt, r3.ne⟩, ((h.k.trans k1 (fun _ q => .inl q)).trans k2 (fun _ q => .inl q)).drew⟩
  · simp only [fset, show ¬ m + x = s by omega, if_false]; exact hf x hx
  · simp only [fset, show ¬ m + x = s by omega, if_false]; exact hg x hx
/-- One key is given to id. -/
def ownSet (own : Nat → Nat) (x id : Nat) : Nat → Nat := fun y => if y = x then id else own y
/-- Behind 'set', as a word. -/
def LWend (w w' : World) (LB LO HI m : Nat) (own : Nat → Nat) : Prop := LWt w' LB LO HI m own ∧ Keep (fun k => k = LO ∨ k = HI) w w'
set_option maxHeartbeats 8000000 in
set_option maxRecDepth 100000 in
/-- lastWriters.only$1. -/
theorem only1_any (bL LB LO HI m x bW bH : Nat) (own : Nat → Nat) (w : World) (h : LWt w LB LO HI m own) (hm : m ≤ 3) (hx : x < m) (hL : w.heap[bL]? = some (.cells #[.int .i64 maxI] 3)) (hW : w.heap[bW]? = some (.cells #[.pointer (some ⟨LB, 0, none⟩)] 116)) (hH : w.heap[bH]? = some (.cells #[.int .i64 0] 3)) (hne : bL ≠ bH) (hb : own x ≤ 3000) (hnl : bL ≠ LO ∧ bL ≠ HI ∧ bH ≠ LO ∧ bH ≠ HI) :
    Calls Ybaz.prog 106 #[.int .i64 ((m : Int) + (x : Int)), .int .i64 (x : Int), .int .i64 ((x : Int) + 1), .pointer (some ⟨bL, 0, none⟩), .pointer (some ⟨bW, 0, none⟩), .pointer (some ⟨bH, 0, none⟩)] w fun e w' => e = .returned (.tuple #[]) ∧ (w'.heap[bL]? = some (.cells #[.int .i64 (if own x = 0 then maxI else (own x : Int))] 3) ∧ w'.heap[bH]? = some (.cells #[.int .i64 (own x : Int)] 3) ∧ Keep (fun b => b = bL ∨ b = bH) w w') := by
  obtain ⟨f, g, r, hf, hg⟩ := h.raw
  have cL : w.cell? ⟨bL, 0, none⟩ = some (.int .i64 maxI) := cell_of _ _ 0 _ _ hL
  have cW : w.cell? ⟨bW, 0, none⟩ = some (.pointer (some ⟨LB, 0, none⟩)) := cell_of _ _ 0 _ _ hW
  have cH : w.cell? ⟨bH, 0, none⟩ = some (.int .i64 0) := cell_of _ _ 0 _ _ hH
  have fL := free_of _ _ 0 _ _ hL
  have fH := free_of _ _ 0 _ _ hH
  have c0 : w.cell? ⟨LB, 0, none⟩ = some (.slice (some ⟨LO, 0, none⟩) (m + m) (m + m)) := cell_of _ _ 0 _ _ h.blk
  have c1 : w.cell? ⟨LB, 1, none⟩ = some (.slice (some ⟨HI, 0, none⟩) (m + m) (m + m)) := cell_of _ _ 1 _ _ h.blk
  have e0 := r.lo.cell (m + x) (by omega)
  have e1 := r.hi.cell (m + x) (by omega)
  rw [hf x hx] at e0
  rw [hg x hx] at e1
  have x2 : ((m : Int) + (x : Int)).toNat = m + x := by omega
  have x3 : (0 : Int) ≤ (m : Int) + (x : Int) := by omega
  have x4 : (m : Int) + (x : Int) < (m : Int) + (m : Int) := by omega
  obtain ⟨y1, y2, y3, y4⟩ := hnl
  have y5 : bL ≠ bW := ne_of_types hL hW (by decide)
  have y6 : bH ≠ bW := ne_of_types hH hW (by decide)
  have y7 : bL ≠ LB := ne_of_types hL h.blk (by decide)
  have y8 : bH ≠ LB := ne_of_types hH h.blk (by decide)
  have y9 : bH ≠ bL := Ne.symm hne
  have hmn : ∀ v : Int, v = (if own x = 0 then maxI else (own x : Int)) → (if v < maxI then v else maxI) = v := fun v hv => by
    rw [hv]
    by_cases e : own x = 0
    · simp [e]
    · rw [if_neg e, if_pos]
      unfold maxI; omega
  generalize hv : (if own x = 0 then maxI else (own x : Int)) = v at *
  have HMN : Hid _ := hmn v rfl
  have HE : Hid (((w.setCell ⟨bL, 0, none⟩ (.int .i64 v)).setCell ⟨bH, 0, none⟩ (.int .i64 (own x : Int))).drew.heap[bL]? = some (.cells #[.int .i64 v] 3) ∧ ((w.setCell ⟨bL, 0, none⟩ (.int .i64 v)).setCell ⟨bH, 0, none⟩ (.int .i64 (own x : Int))).drew.heap[bH]? = some (.cells #[.int .i64 (own x : Int)] 3) ∧ Keep (fun b => b = bL ∨ b = bH) w (((w.setCell ⟨bL, 0, none⟩ (.int .i64 v)).setCell ⟨bH, 0, none⟩ (.int .i64 (own x : Int))).drew)) := by
    have k1 := Keep.setCell w ⟨bL, 0, none⟩ (.int .i64 v)
    have k2 := Keep.setCell (w.setCell ⟨bL, 0, none⟩ (.int .i64 v)) ⟨bH, 0, none⟩ (.int .i64 (own x : Int))
    have b1 := heap_set w bL 0 (.int .i64 v) _ _ hL
    have b2 := heap_set (w.setCell ⟨bL, 0, none⟩ (.int .i64 v)) bH 0 (.int .i64 (own x : Int)) _ _ (k1.at hH y9)
    refine ⟨?_, ?_, ((k1.wide (fun _ e => .inl e)).trans k2 (fun _ e => .inl (.inr e))).drew⟩
    · show ((w.setCell ⟨bL, 0, none⟩ (.int .i64 v)).setCell ⟨bH, 0, none⟩ (.int .i64 (own x : Int))).heap[bL]? = _
      have := k2.at b1 hne; simpa using this
    · show ((w.setCell ⟨bL, 0, none⟩ (.int .i64 v)).setCell ⟨bH, 0, none⟩ (.int .i64 (own x : Int))).heap[bH]? = _
      simpa using b2
  clear h r hf hg hL hW hH hv hmn
  obtain ⟨X, hX⟩ : ∃ X : Int, Hid (X = maxI) := ⟨_, rfl⟩
  rw [← hX.out] at cL HMN
  go_enter Ybaz.func106, Ybaz.ntmps106
  go_upto_region 0 with fail
  go_region
  have hz : (if 0 < own x then (own x : Int) else 0) = (own x : Int) := by split <;> omega
  rw [HMN.out, hz]
  clear cL cW cH fL fH c0 c1 e0 e1 HMN hz
  generalize ((w.setCell ⟨bL, 0, none⟩ (.int .i64 v)).setCell ⟨bH, 0, none⟩ (.int .i64 (own x : Int))).drew = w1 at *
  go_wp2
  go_end0
  exact ⟨rfl, HE.out⟩
theorem cf106 (args : Array Value) (W : World) : (callFunc 106 args).run Ybaz.prog W = .ok (.enter 106 args) W := cf Ybaz.func106 (by kernel_rfl) (by kernel_rfl) args W
end Go.Proofs.YbulkdvbsGreat

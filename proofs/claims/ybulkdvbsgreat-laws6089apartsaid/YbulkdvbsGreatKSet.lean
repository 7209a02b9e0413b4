/-
  keySet: newKeySet, set, first, walked.
-/
import Derived.Laws.Rows
import Derived.Test.YbulkdvbsGreatKeys
import Derived.Test.YbulkdvbsGreatWriters
namespace Go.Proofs.YbulkdvbsGreat
open Go.RowKit
attribute [local go_sem ↓] exec_make95

/-- A set of key numbers, in block KB: c x tells whether x is in it. -/
structure KSt (w : World) (KB CB m : Nat) (c : Nat → Bool) : Prop where
  blk : w.heap[KB]? = some (.cells #[.slice (some ⟨CB, 0, none⟩) (m + m) (m + m)] 280)
  row : ∃ f : Nat → Int, Row w CB (m + m) (fun i => .int .i32 (f i)) ∧ ∀ x, x < m → f (m + x) = if c x then 1 else 0
  lt : CB < w.heap.size
  ne : KB ≠ CB
theorem KSt.keep {w w' : World} {KB CB m : Nat} {c : Nat → Bool} (h : KSt w KB CB m c) {F : Nat → Prop} (k : Keep F w w') (h1 : ¬ F KB) (h2 : ¬ F CB) : KSt w' KB CB m c := by
  obtain ⟨f, r, hf⟩ := h.row
  exact ⟨k.at h.blk h1, ⟨f, r.keep (k.block CB h.lt h2), hf⟩, Nat.lt_of_lt_of_le h.lt k.size, h.ne⟩
/-- What newKeySet answers. -/
def RetKS (w w' : World) (m : Nat) (e : Ending) : Prop := ∃ KB CB, e = .returned (.pointer (some ⟨KB, 0, none⟩)) ∧ KSt w' KB CB m (fun _ => false) ∧ w.heap.size ≤ KB ∧ w.heap.size ≤ CB
set_option maxHeartbeats 4000000 in
set_option maxRecDepth 100000 in
theorem newKSet_any (m : Nat) (w : World) (hm : m ≤ 3) : Calls Ybaz.prog 122 #[.int .i64 (m : Int)] w fun e w' => RetKS w w' m e ∧ Keep (fun _ => False) w w' := by
  have m1 : (m : Int) ≤ 3 := by omega
  have r : (opMk 95 (.int .i64 (2 * (m : Int))) (.int .i64 (2 * (m : Int)))).run Ybaz.prog w = .ok (.value (.slice (some ⟨w.heap.size, 0, none⟩) (m + m) (m + m))) (w.alloc (.cells (mc (.int .i32 0) 1 (m + m)) 21)) := by
    have := run_mkv 95 21 (.int .i32 0) 1 4 Ybaz.underlying95 inf21 (by omega) w (m + m) (by omega)
    rw [show ((m + m : Nat) : Int) = 2 * (m : Int) by omega] at this
    exact this
  have k1 := Keep.alloc (fun _ => False) w (.cells (mc (.int .i32 0) 1 (m + m)) 21)
  have k2 := Keep.alloc (fun _ => False) (w.alloc (.cells (mc (.int .i32 0) 1 (m + m)) 21)) (.cells #[.slice (some ⟨w.heap.size, 0, none⟩) (m + m) (m + m)] 280)
  have e1 : (w.alloc (.cells (mc (.int .i32 0) 1 (m + m)) 21)).heap.size = w.heap.size + 1 := World.size_alloc _ _
  have b1 := k2.at (heap_alloc_new w (.cells (mc (.int .i32 0) 1 (m + m)) 21)) id
  have b2 := heap_alloc_new (w.alloc (.cells (mc (.int .i32 0) 1 (m + m)) 21)) (.cells #[.slice (some ⟨w.heap.size, 0, none⟩) (m + m) (m + m)] 280)
  rw [e1] at b2
  have HF : Hid (RetKS w ((w.alloc (.cells (mc (.int .i32 0) 1 (m + m)) 21)).alloc (.cells #[.slice (some ⟨w.heap.size, 0, none⟩) (m + m) (m + m)] 280)) m (.returned (.pointer (some ⟨w.heap.size + 1, 0, none⟩))) ∧ Keep (fun _ => False) w ((w.alloc (.cells (mc (.int .i32 0) 1 (m + m)) 21)).alloc (.cells #[.slice (some ⟨w.heap.size, 0, none⟩) (m + m) (m + m)] 280))) :=
    ⟨⟨_, _, rfl, ⟨b2, ⟨_, Row.made1 _ _ (m + m) (.int .i32 0) 21 rfl b1, fun x hx => by simp⟩, heap_lt b1, by omega⟩, by omega, Nat.le_refl _⟩, k1.trans k2 (fun _ q => q.elim)⟩
  clear k1 k2 e1 b1 b2
  go_enter Ybaz.func122, Ybaz.ntmps122
  go_wp2
  go_ret
  exact HF.out
/-- c at one place. -/
def cset (c : Nat → Bool) (x : Nat) (v : Bool) : Nat → Bool := fun y => if y = x then v else c y
/-- A leaf is written. -/
theorem KSt.leaf {w : World} {KB CB m : Nat} {c : Nat → Bool} (h : KSt w KB CB m c) (x : Nat) (hx : x < m) (v : Bool) (z : Int) (hz : z = if v then 1 else 0) : KSt (w.setCell ⟨CB, m + x, none⟩ (.int .i32 z)) KB CB m (cset c x v) ∧ Keep (fun k => k = CB) w (w.setCell ⟨CB, m + x, none⟩ (.int .i32 z)) := by
  obtain ⟨f, r, hf⟩ := h.row
  have k := Keep.setCell w ⟨CB, m + x, none⟩ (.int .i32 z)
  refine ⟨⟨k.at h.blk h.ne, ⟨fun i => if i = m + x then z else f i, (r.set (m + x) _ (by omega)).congr (fun i _ => by by_cases e : i = m + x <;> simp [e]), fun y hy => ?_⟩, Nat.lt_of_lt_of_le h.lt k.size, h.ne⟩, k⟩
  by_cases e : y = x
  · simp [e, cset, hz]
  · simp only [cset, e, show ¬ m + y = m + x by omega, if_false]
    exact hf y hy
/-- An inner place is written. -/
theorem KSt.inner {w : World} {KB CB m : Nat} {c : Nat → Bool} (h : KSt w KB CB m c) (s : Nat) (hs : s < m) (z : Int) : KSt (w.setCell ⟨CB, s, none⟩ (.int .i32 z)) KB CB m c ∧ Keep (fun k => k = CB) w (w.setCell ⟨CB, s, none⟩ (.int .i32 z)) := by
  obtain ⟨f, r, hf⟩ := h.row
  have k := Keep.setCell w ⟨CB, s, none⟩ (.int .i32 z)
  refine ⟨⟨k.at h.blk h.ne, ⟨fun i => if i = s then z else f i, (r.set s _ (by omega)).congr (fun i _ => by by_cases e : i = s <;> simp [e]), fun y hy => ?_⟩, Nat.lt_of_lt_of_le h.lt k.size, h.ne⟩, k⟩
  simp only [show ¬ m + y = s by omega, if_false]
  exact hf y hy
/-- Behind 'set', as a word. -/
def KSend (w w' : World) (KB CB m : Nat) (c : Nat → Bool) : Prop := KSt w' KB CB m c ∧ Keep (fun k => k = CB) w w'
theorem cset_same {c : Nat → Bool} {x : Nat} {v : Bool} (h : c x = v) : cset c x v = c := by
  funext y
  by_cases e : y = x
  · simp [cset, e, h]
  · simp [cset, e]
set_option maxHeartbeats 8000000 in
set_option maxRecDepth 100000 in
/-- keySet.set. -/
theorem kset_any (KB CB m x : Nat) (c : Nat → Bool) (v : Bool) (w : World) (h : KSt w KB CB m c) (hm : m ≤ 3) (hx : x < m) : Calls Ybaz.prog 124 #[.pointer (some ⟨KB, 0, none⟩), .int .i64 (x : Int), .bool v] w fun e w' => e = .returned (.tuple #[]) ∧ KSend w w' KB CB m (cset c x v) := by
  have m1 : (m : Int) ≤ 3 := by omega
  have i1 : (x : Int) < (m : Int) := by omega
  have d2 : ((m : Int) + (m : Int)).tdiv 2 = (m : Int) := by rw [Int.tdiv_eq_ediv_of_nonneg (by omega)]; omega
  have q2 : ((m : Int) + (x : Int)).toNat = m + x := by omega
  have q3 : (0 : Int) ≤ (m : Int) + (x : Int) := by omega
  have q4 : (m : Int) + (x : Int) < (m : Int) + (m : Int) := by omega
  have c0 : w.cell? ⟨KB, 0, none⟩ = some (.slice (some ⟨CB, 0, none⟩) (m + m) (m + m)) := cell_of _ _ 0 _ _ h.blk
  obtain ⟨f, r, hf⟩ := h.row
  have e0 := r.cell (m + x) (by omega)
  rw [hf x hx] at e0
  have HH : Hid _ := h
  clear r hf h
  by_cases hcv : c x = v
  · have HF : Hid (KSend w w KB CB m (cset c x v)) := by rw [cset_same hcv]; exact ⟨HH.out, Keep.refl _ _⟩
    rw [hcv] at e0
    go_enter Ybaz.func124, Ybaz.ntmps124
    cases v
    · simp only [Bool.false_eq_true, if_false] at e0
      go_wp2
      refine bodyPost_ret (results_none rfl _ _ _) rfl ?_
      exact ⟨by simp, HF.out⟩
    · simp only [if_true] at e0
      go_wp2
      refine bodyPost_ret (results_none rfl _ _ _) rfl ?_
      exact ⟨by simp, HF.out⟩
  · have hcv' : c x = !v := by cases hq : c x <;> cases v <;> simp_all
    rw [hcv'] at e0
    have HC1 : Hid (c x = !v) := hcv'
    have HX : Hid (x < m) := hx
    clear hcv hcv'
    go_enter Ybaz.func124, Ybaz.ntmps124
    cases v
    · simp only [Bool.not_false, if_true] at e0
      go_wp2
      go_loopw [6] (fun s wr => ∃ k : Nat, s = .int .i64 (k : Int) ∧ Hid (k = m + x ∧ KSend w wr KB CB m c ∨ k < m ∧ KSend w wr KB CB m (cset c x false))) (fun s _ => (intOf s).toNat)
      case atStart => exact ⟨m + x, by simp, .inl ⟨rfl, HH.out, Keep.refl _ _⟩⟩
      case round =>
        obtain ⟨k, rfl, hk⟩ := hrel
        have hx := HX.out
        obtain ⟨z, ez, fz, cz, HN, hk2⟩ : ∃ z : Int, wr.cell? ⟨CB, k, none⟩ = some (.int .i32 z) ∧ wr.frozen? ⟨CB, k, none⟩ = false ∧ wr.cell? ⟨KB, 0, none⟩ = some (.slice (some ⟨CB, 0, none⟩) (m + m) (m + m)) ∧ Hid (0 < k → KSend w (wr.setCell ⟨CB, k, none⟩ (.int .i32 (wrap32 (z + -1)))) KB CB m (cset c x false)) ∧ k < m + m := by
          rcases hk.out with ⟨hk1, hs, hkp⟩ | ⟨hk1, hs, hkp⟩
          · obtain ⟨f, r, hf⟩ := hs.row
            subst hk1
            refine ⟨f (m + x), r.cell (m + x) (by omega), r.free (m + x), cell_of _ _ 0 _ _ hs.blk, fun _ => ?_, by omega⟩
            rw [hf x hx, HC1.out]
            obtain ⟨l1, l2⟩ := hs.leaf x hx false (wrap32 ((if (!false) = true then 1 else 0) + -1)) (by simp; unfold wrap32; omega)
            exact ⟨l1, hkp.trans l2 (fun b q => .inl q)⟩
          · obtain ⟨f, r, hf⟩ := hs.row
            refine ⟨f k, r.cell k (by omega), r.free k, cell_of _ _ 0 _ _ hs.blk, fun _ => ?_, by omega⟩
            obtain ⟨l1, l2⟩ := hs.inner k hk1 (wrap32 (f k + -1))
            exact ⟨l1, hkp.trans l2 (fun b q => .inl q)⟩
        have HK : Hid _ := hk
        clear hk
        by_cases k0 : k = 0
        · subst k0
          have HF : Hid (KSend w wr KB CB m (cset c x false)) := by
            rcases HK.out with ⟨q, _⟩ | ⟨_, q⟩
            · omega
            · exact q
          go_wp2
          go_end0
          exact ⟨by simp, HF.out⟩
        · have k1 : (1 : Int) ≤ (k : Int) := by omega
          have k3 : (k : Int) < (m : Int) + (m : Int) := by omega
          have k4 : (k : Int).tdiv 2 = ((k / 2 : Nat) : Int) := by rw [Int.tdiv_eq_ediv_of_nonneg (by omega)]; omega
          have HN2 := HN.out (by omega)
          have HD : Hid (k / 2 < m) := by show k / 2 < m; omega
          generalize hq : k / 2 = q at *
          have HQ : Hid (k / 2 = q) := hq
          clear hq HN
          have q5 : (q : Int) ≤ 3 := by have := HD.out; omega
          go_wp2
          exact ⟨⟨q, rfl, .inr ⟨HD.out, HN2⟩⟩, by have := HQ.out; simp [intOf]; omega⟩

    · simp only [Bool.not_true, Bool.false_eq_true, if_false] at e0
      go_wp2
      go_loopw [6] (fun s wr => ∃ k : Nat, s = .int .i64 (k : Int) ∧ Hid (k = m + x ∧ KSend w wr KB CB m c ∨ k < m ∧ KSend w wr KB CB m (cset c x true))) (fun s _ => (intOf s).toNat)
      case atStart => exact ⟨m + x, by simp, .inl ⟨rfl, HH.out, Keep.refl _ _⟩⟩
      case round =>
        obtain ⟨k, rfl, hk⟩ := hrel
        have hx := HX.out
        obtain ⟨z, ez, fz, cz, HN, hk2⟩ : ∃ z : Int, wr.cell? ⟨CB, k, none⟩ = some (.int .i32 z) ∧ wr.frozen? ⟨CB, k, none⟩ = false ∧ wr.cell? ⟨KB, 0, none⟩ = some (.slice (some ⟨CB, 0, none⟩) (m + m) (m + m)) ∧ Hid (0 < k → KSend w (wr.setCell ⟨CB, k, none⟩ (.int .i32 (wrap32 (z + 1)))) KB CB m (cset c x true)) ∧ k < m + m := by
          rcases hk.out with ⟨hk1, hs, hkp⟩ | ⟨hk1, hs, hkp⟩
          · obtain ⟨f, r, hf⟩ := hs.row
            subst hk1
            refine ⟨f (m + x), r.cell (m + x) (by omega), r.free (m + x), cell_of _ _ 0 _ _ hs.blk, fun _ => ?_, by omega⟩
            rw [hf x hx, HC1.out]
            obtain ⟨l1, l2⟩ := hs.leaf x hx true (wrap32 ((if (!true) = true then 1 else 0) + 1)) (by simp; unfold wrap32; omega)
            exact ⟨l1, hkp.trans l2 (fun b q => .inl q)⟩
          · obtain ⟨f, r, hf⟩ := hs.row
            refine ⟨f k, r.cell k (by omega), r.free k, cell_of _ _ 0 _ _ hs.blk, fun _ => ?_, by omega⟩
            obtain ⟨l1, l2⟩ := hs.inner k hk1 (wrap32 (f k + 1))
            exact ⟨l1, hkp.trans l2 (fun b q => .inl q)⟩
        have HK : Hid _ := hk
        clear hk
        by_cases k0 : k = 0
        · subst k0
          have HF : Hid (KSend w wr KB CB m (cset c x true)) := by
            rcases HK.out with ⟨q, _⟩ | ⟨_, q⟩
            · omega
            · exact q
          go_wp2
          go_end0
          exact ⟨by simp, HF.out⟩
        · have k1 : (1 : Int) ≤ (k : Int) := by omega
          have k3 : (k : Int) < (m : Int) + (m : Int) := by omega
          have k4 : (k : Int).tdiv 2 = ((k / 2 : Nat) : Int) := by rw [Int.tdiv_eq_ediv_of_nonneg (by omega)]; omega
          have HN2 := HN.out (by omega)
          have HD : Hid (k / 2 < m) := by show k / 2 < m; omega
          generalize hq : k / 2 = q at *
          have HQ : Hid (k / 2 = q) := hq
          clear hq HN
          have q5 : (q : Int) ≤ 3 := by have := HD.out; omega
          go_wp2
          exact ⟨⟨q, rfl, .inr ⟨HD.out, HN2⟩⟩, by have := HQ.out; simp [intOf]; omega⟩

theorem inf283 : ∃ i, Ybaz.prog.info? 283 = some i ∧ i.zero = some (.agg #[.int .i64 0, .int .i64 0]) ∧ i.size = 2 ∧ i.bytes = 16 := inf_of (by kernel_rfl)
/-- What keySet.first's visit leaves. -/
def KF (w w' : World) (hb m x : Nat) (b : Bool) : Prop := Keep (fun k => k = hb) w w' ∧ (b = true → ∃ AB ac, AB < w'.heap.size ∧ w'.cell? ⟨hb, 0, none⟩ = some (.slice (some ⟨AB, 0, none⟩) 1 ac) ∧ w'.cell? ⟨AB, 0, none⟩ = some (.int .i64 ((m : Int) + (x : Int))) ∧ w'.cell? ⟨AB, 1, none⟩ = some (.int .i64 (x : Int))) ∧ (b = false → w'.cell? ⟨hb, 0, none⟩ = some (.slice none 0 0))
attribute [local go_sem ↓ 2000] exec_app
set_option maxHeartbeats 4000000 in
set_option maxRecDepth 100000 in
theorem kf_any (KB CB m x bx hb : Nat) (c : Nat → Bool) (w : World) (h : KSt w KB CB m c) (hm : m ≤ 3) (hx : x < m) (h1 : w.cell? ⟨bx, 0, none⟩ = some (.pointer (some ⟨KB, 0, none⟩))) (h2 : w.heap[hb]? = some (.cells #[.slice none 0 0] 281)) :
    Calls Ybaz.prog 189 (#[.int .i64 ((m : Int) + (x : Int)), .int .i64 (x : Int), .int .i64 ((x : Int) + 1)] ++ #[.pointer (some ⟨bx, 0, none⟩), .pointer (some ⟨hb, 0, none⟩)]) w fun e w' => e = .returned (.tuple #[]) ∧ KF w w' hb m x (c x) := by
  have m1 : (m : Int) ≤ 3 := by omega
  have i1 : (x : Int) < (m : Int) := by omega
  have q2 : ((m : Int) + (x : Int)).toNat = m + x := by omega
  have q3 : (0 : Int) ≤ (m : Int) + (x : Int) := by omega
  have q4 : (m : Int) + (x : Int) < (m : Int) + (m : Int) := by omega
  have c0 : w.cell? ⟨KB, 0, none⟩ = some (.slice (some ⟨CB, 0, none⟩) (m + m) (m + m)) := cell_of _ _ 0 _ _ h.blk
  have c2 : w.cell? ⟨hb, 0, none⟩ = some (.slice none 0 0) := cell_of _ _ 0 _ _ h2
  obtain ⟨f, r, hf⟩ := h.row
  have e0 := r.cell (m + x) (by omega)
  rw [hf x hx] at e0
  clear r hf h
  show Calls Ybaz.prog 189 #[.int .i64 ((m : Int) + (x : Int)), .int .i64 (x : Int), .int .i64 ((x : Int) + 1), .pointer (some ⟨bx, 0, none⟩), .pointer (some ⟨hb, 0, none⟩)] w _
  cases hcx : c x
  · rw [hcx] at e0
    simp only [Bool.false_eq_true, if_false] at e0
    have HF : Hid (KF w w hb m x false) := ⟨Keep.refl _ _, fun q => by simp at q, fun _ => c2⟩
    go_enter Ybaz.func189, Ybaz.ntmps189
    go_wp2
    go_end0
    exact ⟨rfl, HF.out⟩
  · rw [hcx] at e0
    simp only [if_true] at e0
    obtain ⟨g, cap, w2, hr, hv, hk, hg, hl⟩ := run_push (w.alloc (.cells #[.int .i64 ((m : Int) + (x : Int)), .int .i64 (x : Int)] 283)) 281 283 281 2 16 _ Ybaz.underlying281 inf283 rfl (by decide) (by decide) none 0 0 (fun _ _ => .int .i64 0) (Vec.nil _ _ _ _) ⟨w.heap.size, 0, none⟩ 1 (fun c => if c = 0 then .int .i64 ((m : Int) + (x : Int)) else .int .i64 (x : Int)) (fun j hj => by
      rw [add_none, cell_of _ _ _ _ _ (heap_alloc_new _ _)]
      have : j = 0 ∨ j = 1 := by omega
      rcases this with rfl | rfl <;> simp) (fun j _ => by split <;> rfl) (by omega)
    simp only [Nat.zero_add] at hr
    have k1 := Keep.alloc (fun _ => False) w (.cells #[.int .i64 ((m : Int) + (x : Int)), .int .i64 (x : Int)] 283)
    have hb2 := hk.at (k1.at h2 id) (by simp)
    have hgb : g ≠ hb := by
      rcases hg with q | q
      · cases q
      · have := heap_lt (k1.at h2 id); omega
    have c5 : w2.cell? ⟨hb, 0, none⟩ = some (.slice none 0 0) := cell_of _ _ 0 _ _ hb2
    have f5 : w2.frozen? ⟨hb, 0, none⟩ = false := free_of _ _ 0 _ _ hb2
    obtain ⟨g', hg', hl', rk⟩ := hv.blk (by omega)
    obtain rfl : g = g' := by injection hg' with q; injection q
    have a0 := rk.cell 0 0 (by omega) (by omega)
    have a1 := rk.cell 0 1 (by omega) (by omega)
    have k3 := Keep.setCell w2 ⟨hb, 0, none⟩ (.slice (some ⟨g, 0, none⟩) 1 cap)
    have HF : Hid (KF w (w2.setCell ⟨hb, 0, none⟩ (.slice (some ⟨g, 0, none⟩) 1 cap)) hb m x true) := by
      refine ⟨((k1.trans hk (fun b q => by cases q)).wide (fun b q => q.elim)).trans k3 (fun b q => .inl q), fun _ => ⟨g, cap, Nat.lt_of_lt_of_le hl k3.size, ?_, ?_, ?_⟩, fun q => by simp at q⟩
      · rw [cell_set _ _ _ _ _ (by rw [c5]; rfl)]; simp
      · rw [k3.cell ⟨g, 0, none⟩ hl hgb, a0]; simp [push]
      · rw [k3.cell ⟨g, 1, none⟩ hl hgb, a1]; simp [push]
    clear k1 hb2 hgb hl' rk a0 a1 k3 hv hk hg hl h2
    go_enter Ybaz.func189, Ybaz.ntmps189
    go_wp2
    go_end0
    exact ⟨rfl, HF.out⟩
set_option maxHeartbeats 4000000 in
set_option maxRecDepth 100000 in
/-- slices.MinFunc of one element. -/
theorem minf_one (AB ac : Nat) (s f : Int) (cv : Value) (w : World) (hl : AB < w.heap.size) (h0 : w.cell? ⟨AB, 0, none⟩ = some (.int .i64 s)) (h1 : w.cell? ⟨AB, 1, none⟩ = some (.int .i64 f)) :
    Calls Ybaz.prog 190 #[.slice (some ⟨AB, 0, none⟩) 1 ac, cv] w fun e w' => e = .returned (.agg #[.int .i64 s, .int .i64 f]) ∧ Keep (fun _ => False) w w' := by
  have k1 := Keep.alloc (fun _ => False) w (.cells #[.int .i64 0, .int .i64 0] 283)
  have a0 := (k1.cell ⟨AB, 0, none⟩ hl id).trans h0
  have a1 := (k1.cell ⟨AB, 1, none⟩ hl id).trans h1
  clear k1
  go_enter Ybaz.func190, Ybaz.ntmps190
  go_wp2
  refine wp_loop_once ?_
  go_wp2
  have b1 := (Keep.alloc (fun _ => False) (w.alloc (.cells #[.int .i64 s, .int .i64 f] 283)) (.cells #[.int .i64 s, .int .i64 f] 283)).at (heap_alloc_new w (.cells #[.int .i64 s, .int .i64 f] 283)) id
  refine bodyPost_ret (results_cell_row rfl _ _ w.heap.size 283 #[.int .i64 s, .int .i64 f] _ _ rfl b1 Ybaz.underlying283 rfl (by kernel_rfl)) rfl ?_
  exact ⟨rfl, (Keep.alloc _ w _).trans (Keep.alloc (fun _ => False) _ _) (fun _ q => q.elim)⟩
/-- What first answers. -/
def KFirst (x : Nat) (c : Nat → Bool) (e : Ending) : Prop := ∃ r : Int, e = .returned (.int .i64 r) ∧ (c x = true ∧ r = (x : Int) ∨ c x = false ∧ r = -1)
set_option maxHeartbeats 4000000 in
set_option maxRecDepth 100000 in
theorem kfirst_one (KB CB m x : Nat) (c : Nat → Bool) (w : World) (h : KSt w KB CB m c) (hm : m ≤ 3) (hx : x < m) : Calls Ybaz.prog 126 #[.pointer (some ⟨KB, 0, none⟩), .int .i64 (x : Int), .int .i64 ((x : Int) + 1)] w fun e w' => KFirst x c e ∧ Keep (fun _ => False) w w' := by
  have hmf : ∀ fn first cap w, (Instr.makeFunc fn first cap).run Ybaz.prog w = .ok (.func fn first cap) w := fun _ _ _ _ => rfl
  have m1 : (m : Int) ≤ 3 := by omega
  have i1 : (x : Int) < (m : Int) := by omega
  have d2 : ((m : Int) + (m : Int)).tdiv 2 = (m : Int) := by rw [Int.tdiv_eq_ediv_of_nonneg (by omega)]; omega
  have k1 := Keep.alloc (fun _ => False) w (.cells #[.pointer (some ⟨KB, 0, none⟩)] 216)
  have k2 := Keep.alloc (fun _ => False) (w.alloc (.cells #[.pointer (some ⟨KB, 0, none⟩)] 216)) (.cells #[.slice none 0 0] 281)
  have b1 := heap_alloc_new w (.cells #[.pointer (some ⟨KB, 0, none⟩)] 216)
  have b2 := heap_alloc_new (w.alloc (.cells #[.pointer (some ⟨KB, 0, none⟩)] 216)) (.cells #[.slice none 0 0] 281)
  have e1 : (w.alloc (.cells #[.pointer (some ⟨KB, 0, none⟩)] 216)).heap.size = w.heap.size + 1 := World.size_alloc _ _
  rw [e1] at b2
  have hs1 := (h.keep k1 id id)
  have hs2 := hs1.keep k2 id id
  have c0 : (w.alloc (.cells #[.pointer (some ⟨KB, 0, none⟩)] 216)).cell? ⟨KB, 0, none⟩ = some (.slice (some ⟨CB, 0, none⟩) (m + m) (m + m)) := cell_of _ _ 0 _ _ hs1.blk
  have HS := fun (_ : Unit) => segments_one m x 189 #[.pointer (some ⟨w.heap.size, 0, none⟩), .pointer (some ⟨w.heap.size + 1, 0, none⟩)] _ hx hm (fun w' => Hid (KF ((w.alloc (.cells #[.pointer (some ⟨KB, 0, none⟩)] 216)).alloc (.cells #[.slice none 0 0] 281)) w' (w.heap.size + 1) m x (c x))) (cf Ybaz.func189 (by kernel_rfl) (by kernel_rfl)) (fun _ => (kf_any KB CB m x w.heap.size (w.heap.size + 1) c _ hs2 hm hx (cell_of _ _ 0 _ _ (k2.at b1 id)) b2).mono (fun e w' q => ⟨q.1, q.2⟩))
  have HK : Hid (Keep (fun _ => False) w ((w.alloc (.cells #[.pointer (some ⟨KB, 0, none⟩)] 216)).alloc (.cells #[.slice none 0 0] 281))) := k1.trans k2 (fun _ q => q.elim)
  clear k1 k2 b1 b2 hs1 hs2 h
  go_enter Ybaz.func126, Ybaz.ntmps126
  go_upto_region 4 with (go_at_call 104; refine (HS ()).mono ?_; rintro e w2 ⟨rfl, HF⟩)
  clear HS c0
  have HK2 : Hid (Keep (fun _ => False) w w2) := HK.out.trans HF.out.1 (fun b q => .inr (by omega))
  cases hc : c x
  · have c2 := HF.out.2.2 hc
    have HR : Hid (KFirst x c (.returned (.int .i64 (-1)))) := ⟨-1, rfl, .inr ⟨hc, rfl⟩⟩
    clear HF HK
    go_wp2
    go_ret
    exact ⟨HR.out, HK2.out⟩
  · obtain ⟨AB, ac, hl, c2, a0, a1⟩ := HF.out.2.1 hc
    have HR : Hid (KFirst x c (.returned (.int .i64 (x : Int)))) := ⟨x, rfl, .inl ⟨hc, rfl⟩⟩
    have HM := fun (_ : Unit) => (minf_one AB ac ((m : Int) + (x : Int)) (x : Int) (.func (.func 191) #[] #[]) w2 hl a0 a1).mono (fun e w' q => (⟨q.1, q.2⟩ : e = _ ∧ Hid (Keep (fun _ => False) w2 w')))
    have q5 : (m : Int) + (x : Int) - (m : Int) = (x : Int) := by omega
    have q6 : ¬ (m : Int) + (x : Int) < (m : Int) := by omega
    have hfd : ∀ (a b : Value) (W : World), (Instr.field 283 (.agg #[a, b]) 0).run Ybaz.prog W = .ok a W := fun a b W => by kernel_rfl
    clear HF HK a0 a1 hl
    go_wp2_with (go_at_call 190; refine (HM ()).mono ?_; rintro e w3 ⟨rfl, HK3⟩)
    clear HM
    refine wp_loop_once ?_
    go_wp2
    go_ret
    exact ⟨HR.out, HK2.out.trans HK3.out (fun _ q => q.elim)⟩
set_option maxHeartbeats 4000000 in
set_option maxRecDepth 100000 in
theorem kfirst_none (KB CB m x : Nat) (c : Nat → Bool) (w : World) (h : KSt w KB CB m c) (hm : m ≤ 3) (hx : x ≤ m) : Calls Ybaz.prog 126 #[.pointer (some ⟨KB, 0, none⟩), .int .i64 (x : Int), .int .i64 (x : Int)] w fun e w' => e = .returned (.int .i64 (-1)) ∧ Keep (fun _ => False) w w' := by
  have hmf : ∀ fn first cap w, (Instr.makeFunc fn first cap).run Ybaz.prog w = .ok (.func fn first cap) w := fun _ _ _ _ => rfl
  have m1 : (m : Int) ≤ 3 := by omega
  have d2 : ((m : Int) + (m : Int)).tdiv 2 = (m : Int) := by rw [Int.tdiv_eq_ediv_of_nonneg (by omega)]; omega
  have k1 := Keep.alloc (fun _ => False) w (.cells #[.pointer (some ⟨KB, 0, none⟩)] 216)
  have k2 := Keep.alloc (fun _ => False) (w.alloc (.cells #[.pointer (some ⟨KB, 0, none⟩)] 216)) (.cells #[.slice none 0 0] 281)
  have hs1 := (h.keep k1 id id)
  have c0 : (w.alloc (.cells #[.pointer (some ⟨KB, 0, none⟩)] 216)).cell? ⟨KB, 0, none⟩ = some (.slice (some ⟨CB, 0, none⟩) (m + m) (m + m)) := cell_of _ _ 0 _ _ hs1.blk
  have HS := fun (_ : Unit) (f : Value) (v : World) => segments_none m x f v hx hm
  have HK : Hid (Keep (fun _ => False) w ((w.alloc (.cells #[.pointer (some ⟨KB, 0, none⟩)] 216)).alloc (.cells #[.slice none 0 0] 281))) := k1.trans k2 (fun _ q => q.elim)
  clear k1 k2 hs1 h
  go_enter Ybaz.func126, Ybaz.ntmps126
  go_wp2_with (go_at_call 104; refine (HS () _ _).mono ?_; rintro e w2 ⟨rfl, rfl⟩)
  go_ret
  exact ⟨rfl, HK.out⟩
end Go.Proofs.YbulkdvbsGreat

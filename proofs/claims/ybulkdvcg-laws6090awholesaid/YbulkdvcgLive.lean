/-
  setLive and the law's own marking, walked.
-/
import Derived.Test.YbulkdvcgRows
import Derived.Test.YbulkdvcgMarks
import Derived.WalkKit
import Derived.WalkSpells
import Derived.WalkLawsBesides
namespace Go.Proofs.Ybulkdvcg
open Go.RowKit

/-- Block L holds n int32s, f, and may be written. -/
structure Row32 (w : World) (L n : Nat) (f : Nat → Int) : Prop where
  cell : ∀ i, i < n → w.cell? ⟨L, i, none⟩ = some (.int .i32 (f i))
  free : ∀ i, w.frozen? ⟨L, i, none⟩ = false
/-- Block L holds n bools, f, and may be written. -/
structure RowB (w : World) (L n : Nat) (f : Nat → Bool) : Prop where
  cell : ∀ i, i < n → w.cell? ⟨L, i, none⟩ = some (.bool (f i))
  free : ∀ i, w.frozen? ⟨L, i, none⟩ = false

theorem Row32.set {w : World} {L n : Nat} {f : Nat → Int} (h : Row32 w L n f) (i : Nat) (x : Int) (hi : i < n) : Row32 (w.setCell ⟨L, i, none⟩ (.int .i32 x)) L n (fun j => if j = i then x else f j) := by
  refine ⟨fun j hj => ?_, fun j => by rw [World.frozen?_setCell]; exact h.free j⟩
  by_cases e : j = i
  · subst e; rw [World.cell?_setCell_same _ _ _ (h.cell j hj)]; simp
  · rw [World.cell?_setCell_other _ _ _ _ (by intro q; injection q with _ q2 _; exact e q2.symm), h.cell j hj]; simp [e]
theorem RowB.set {w : World} {L n : Nat} {f : Nat → Bool} (h : RowB w L n f) (i : Nat) (x : Bool) (hi : i < n) : RowB (w.setCell ⟨L, i, none⟩ (.bool x)) L n (fun j => if j = i then x else f j) := by
  refine ⟨fun j hj => ?_, fun j => by rw [World.frozen?_setCell]; exact h.free j⟩
  by_cases e : j = i
  · subst e; rw [World.cell?_setCell_same _ _ _ (h.cell j hj)]; simp
  · rw [World.cell?_setCell_other _ _ _ _ (by intro q; injection q with _ q2 _; exact e q2.symm), h.cell j hj]; simp [e]
theorem Row32.keep {w w' : World} {L n : Nat} {f : Nat → Int} (h : Row32 w L n f) (hb : w'.heap[L]? = w.heap[L]?) : Row32 w' L n f :=
  ⟨fun i hi => by rw [World.cell?_of_block (a := ⟨L, i, none⟩) hb]; exact h.cell i hi, fun i => by rw [World.frozen?_of_block (a := ⟨L, i, none⟩) hb]; exact h.free i⟩
theorem RowB.keep {w w' : World} {L n : Nat} {f : Nat → Bool} (h : RowB w L n f) (hb : w'.heap[L]? = w.heap[L]?) : RowB w' L n f :=
  ⟨fun i hi => by rw [World.cell?_of_block (a := ⟨L, i, none⟩) hb]; exact h.cell i hi, fun i => by rw [World.frozen?_of_block (a := ⟨L, i, none⟩) hb]; exact h.free i⟩

/-- The marks laid into block L. -/
def setW (L : Nat) : List (Nat × Nat) → World → World
  | [], w => w
  | p :: ms, w => setW L ms (w.setCell ⟨L, p.1, none⟩ (.int .i32 (p.2 : Int)))
theorem setW_append (L : Nat) : ∀ (a b : List (Nat × Nat)) (w : World), setW L (a ++ b) w = setW L b (setW L a w)
  | [], _, _ => rfl
  | _ :: a, b, _ => setW_append L a b _
theorem setW_heap (L : Nat) : ∀ (ms : List (Nat × Nat)) (w : World) (k : Nat), k ≠ L → (setW L ms w).heap[k]? = w.heap[k]?
  | [], _, _, _ => rfl
  | _ :: ms, w, k, h => by
    rw [setW, setW_heap L ms _ k h]
    exact Below.heap_setCell w _ _ k h
theorem setW_size (L : Nat) : ∀ (ms : List (Nat × Nat)) (w : World), (setW L ms w).heap.size = w.heap.size
  | [], _ => rfl
  | _ :: ms, w => by rw [setW, setW_size L ms]; simp [World.setCell]
theorem setW_row (L n : Nat) : ∀ (ms : List (Nat × Nat)) (w : World) (f : Nat → Int), Row32 w L n f → (∀ p ∈ ms, p.1 < n) → Row32 (setW L ms w) L n (lay f ms)
  | [], _, _, h, _ => h
  | p :: ms, w, f, h, hp => setW_row L n ms _ _ (h.set p.1 (p.2 : Int) (hp p (by simp))) (fun q hq => hp q (by simp [hq]))
theorem setW_below (L : Nat) {B : Nat} {a : World} (hB : B ≤ L) : ∀ (ms : List (Nat × Nat)) (w : World), Below B a w → Below B a (setW L ms w)
  | [], _, h => h
  | _ :: ms, _, h => setW_below L hB ms _ (h.setCell (p := ⟨L, _, none⟩) hB _)

theorem wrap32_small (x : Int) (h0 : 0 ≤ x) (h1 : x ≤ 2147483647) : IntKind.i32.wrap x = x := by
  unfold IntKind.wrap; simp [IntKind.bits, IntKind.signed]; omega

set_option maxHeartbeats 1000000 in
set_option maxRecDepth 100000 in
theorem live_any (T L n c : Nat) (hTL : T ≠ L) (hn : n ≤ 2000000) (d : Nat) : ∀ (lo hi : Nat) (w : World) (f : Nat → Int), hi - lo ≤ d → hi ≤ n → lo ≤ n → w.cell? ⟨T, 5, none⟩ = some (.slice (some ⟨L, 0, none⟩) n c) → Row32 w L n f →
    Calls Yba.prog 21 #[.pointer (some ⟨T, 0, none⟩), .int .i64 lo, .int .i64 hi] w fun e w' => e = .returned (.tuple #[]) ∧ w' = setW L (mks lo hi) w := by
  induction d with
  | zero =>
    intro lo hi w f hd hhi hlo hc hr
    have HM : Hid (mks lo hi = []) := mks_small lo hi (by omega)
    have h1 : ¬ (8 : Int) < (hi : Int) - (lo : Int) := by omega
    have hb1 : (hi : Int) ≤ 2000000 := by omega
    have hb2 : (lo : Int) ≤ 2000000 := by omega
    go_enter Yba.func21, Yba.ntmps21
    go_wp2
    refine wp_loop_once ?_
    go_wp2
    go_end0
    exact ⟨rfl, by rw [HM.out]; rfl⟩
  | succ d ih =>
    intro lo hi w f hd hhi hlo hc hr
    have hb1 : (hi : Int) ≤ 2000000 := by omega
    go_enter Yba.func21, Yba.ntmps21
    go_wp2
    go_loopw [1] (fun i wr => ∃ (l : Nat) (pre : List (Nat × Nat)), lo ≤ l ∧ l ≤ n + 1 ∧ i = .int .i64 l ∧ Hid (pre ++ mks l hi = mks lo hi) ∧ Hid (wr = setW L pre w)) (fun i _ => hi - (intOf i).toNat)
    case atStart => exact ⟨lo, [], Nat.le_refl _, by omega, rfl, rfl, rfl⟩
    case round =>
      obtain ⟨l, pre, hl, hl2, rfl, HP, HW⟩ := hrel
      by_cases hbig : hi - l ≤ 8
      · have h1 : ¬ (8 : Int) < (hi : Int) - (l : Int) := by omega
        have HM : Hid (mks l hi = []) := mks_small l hi hbig
        have hb2 : (l : Int) ≤ 2000001 := by omega
        go_wp2
        go_end0
        exact ⟨rfl, by have h2 := HP.out; rw [HM.out, List.append_nil] at h2; rw [HW.out, h2]⟩
      · obtain ⟨D, HD⟩ : ∃ D, Hid (D = hi - l) := ⟨_, rfl⟩
        obtain ⟨E, HE⟩ : ∃ E, Hid (E = D / 2) := ⟨_, rfl⟩
        obtain ⟨mid, Hmid⟩ : ∃ mid, Hid (mid = l + E) := ⟨_, rfl⟩
        have hAll : (8 : Int) < (D : Int) ∧ (hi : Int) - (l : Int) = (D : Int) ∧ (D : Int) / 2 = (E : Int) ∧ (l : Int) + (E : Int) = (mid : Int) ∧ mid < n ∧ (mid : Int) < (n : Int) ∧ (l : Int) ≤ 2000001 ∧ (mid : Int) ≤ 2000001 ∧ (D : Int) ≤ 2000001 ∧ (E : Int) ≤ 2000001 := by
          have h1 := HD.out; have h2 := HE.out; have h3 := Hmid.out; omega
        obtain ⟨h1, h2, h3, h4, h5, h5', hb2, hb3, hb4, hb5⟩ := hAll
        have h3' : (D : Int).tdiv 2 = (E : Int) := by rw [Int.tdiv_eq_ediv_of_nonneg (by omega)]; exact h3
        have w1 : IntKind.i32.wrap (D : Int) = (D : Int) := wrap32_small _ (by omega) (by omega)
        have HM : Hid (mks l hi = (mid, D) :: (mks l mid ++ mks (mid + 1) hi)) := by show mks l hi = _; rw [mks_big l hi hbig, ← HD.out, ← HE.out, ← Hmid.out]
        have hpn : ∀ p ∈ pre, p.1 < n := fun p hp => by
          have := (mks_in (hi - lo) lo hi (Nat.le_refl _) p (by rw [← HP.out]; exact List.mem_append_left _ hp)).2.1
          omega
        have hr2 : Row32 wr L n (lay f pre) := by rw [HW.out]; exact setW_row L n pre w f hr hpn
        have hc2 : wr.cell? ⟨T, 5, none⟩ = some (.slice (some ⟨L, 0, none⟩) n c) := by rw [HW.out, World.cell?_of_block (a := ⟨T, 5, none⟩) (setW_heap L pre w T hTL)]; exact hc
        have hcm : wr.cell? ⟨L, mid, none⟩ = some _ := hr2.cell mid h5
        have hfm := hr2.free mid
        have hd2 : mid - l ≤ d ∧ l ≤ n ∧ mid ≤ n := by
          have h1 := HD.out; have h2 := HE.out; have h3 := Hmid.out; omega
        have HC := ih l mid (wr.setCell ⟨L, mid, none⟩ (.int .i32 (D : Int))) _ hd2.1 hd2.2.2 hd2.2.1 ((World.cell?_of_block (a := ⟨T, 5, none⟩) (Below.heap_setCell wr _ _ T hTL)).trans hc2) (hr2.set mid D h5)
        go_wp2_with (go_at_call 21; go_must (refine HC.mono ?_); rintro e w' ⟨rfl, rfl⟩)
        go_roundw
        · refine ⟨mid + 1, pre ++ (mid, D) :: mks l mid, ?_, ?_, by push_cast; rfl, ?_, ?_⟩
          · have h3 := Hmid.out; omega
          · omega
          · show _ = _
            rw [← HP.out, HM.out]; simp
          · show _ = _
            rw [setW_append, ← HW.out]; rfl
        · simp only [intOf]; have h3 := Hmid.out; have h4 := HD.out; omega

/-- The marks laid into block W, and which are marked into block S. -/
def setM (W S : Nat) : List (Nat × Nat) → World → World
  | [], w => w
  | p :: ms, w => setM W S ms ((w.setCell ⟨W, p.1, none⟩ (.int .i32 (p.2 : Int))).setCell ⟨S, p.1, none⟩ (.bool true))
theorem setM_append (W S : Nat) : ∀ (a b : List (Nat × Nat)) (w : World), setM W S (a ++ b) w = setM W S b (setM W S a w)
  | [], _, _ => rfl
  | _ :: a, b, _ => setM_append W S a b _
theorem setM_heap (W S : Nat) : ∀ (ms : List (Nat × Nat)) (w : World) (k : Nat), k ≠ W → k ≠ S → (setM W S ms w).heap[k]? = w.heap[k]?
  | [], _, _, _, _ => rfl
  | _ :: ms, w, k, h, h' => by
    rw [setM, setM_heap W S ms _ k h h']
    exact (Below.heap_setCell _ _ _ k h').trans (Below.heap_setCell w _ _ k h)
theorem setM_size (W S : Nat) : ∀ (ms : List (Nat × Nat)) (w : World), (setM W S ms w).heap.size = w.heap.size
  | [], _ => rfl
  | _ :: ms, w => by rw [setM, setM_size W S ms]; simp [World.setCell]
theorem setM_rows (W S n : Nat) (hWS : W ≠ S) : ∀ (ms : List (Nat × Nat)) (w : World) (f : Nat → Int) (g : Nat → Bool), Row32 w W n f → RowB w S n g → (∀ p ∈ ms, p.1 < n) → Row32 (setM W S ms w) W n (lay f ms) ∧ RowB (setM W S ms w) S n (seen g ms)
  | [], _, _, _, h, h', _ => ⟨h, h'⟩
  | p :: ms, w, f, g, h, h', hp => setM_rows W S n hWS ms _ _ _ ((h.set p.1 (p.2 : Int) (hp p (by simp))).keep (Below.heap_setCell _ _ _ W hWS)) ((h'.keep (Below.heap_setCell w ⟨W, p.1, none⟩ (.int .i32 (p.2 : Int)) S (Ne.symm hWS))).set p.1 true (hp p (by simp))) (fun q hq => hp q (by simp [hq]))
theorem setM_below (W S : Nat) {B : Nat} {a : World} (hB : B ≤ W) (hB' : B ≤ S) : ∀ (ms : List (Nat × Nat)) (w : World), Below B a w → Below B a (setM W S ms w)
  | [], _, h => h
  | _ :: ms, _, h => setM_below W S hB hB' ms _ ((h.setCell (p := ⟨W, _, none⟩) hB _).setCell (p := ⟨S, _, none⟩) hB' _)

set_option maxHeartbeats 200000 in
set_option maxRecDepth 100000 in
theorem mark_any (W S n c c' : Nat) (hWS : W ≠ S) (hn : n ≤ 2000000) (d : Nat) : ∀ (lo hi : Nat) (w : World) (f : Nat → Int) (g : Nat → Bool), hi - lo ≤ d → hi ≤ n → lo ≤ n + 1 → Row32 w W n f → RowB w S n g →
    Calls Yba.prog 11 #[.slice (some ⟨W, 0, none⟩) n c, .slice (some ⟨S, 0, none⟩) n c', .int .i64 lo, .int .i64 hi] w fun e w' => e = .returned (.tuple #[]) ∧ w' = setM W S (mks lo hi) w := by
  induction d with
  | zero =>
    intro lo hi w f g hd hhi hlo hr hg
    have HM : Hid (mks lo hi = []) := mks_small lo hi (by omega)
    have h1 : (hi : Int) - (lo : Int) ≤ 8 := by omega
    have hb1 : (hi : Int) ≤ 2000000 := by omega
    have hb2 : (lo : Int) ≤ 2000001 := by omega
    go_enter Yba.func11, Yba.ntmps11
    go_wp2
    refine bodyPost_ret (results_none rfl _ _ _) rfl ⟨rfl, ?_⟩
    rw [HM.out]; rfl
  | succ d ih =>
    intro l hi w f g hd hhi hlo hr hg
    have hb1 : (hi : Int) ≤ 2000000 := by omega
    by_cases hbig : hi - l ≤ 8
    · have HM : Hid (mks l hi = []) := mks_small l hi hbig
      have h1 : (hi : Int) - (l : Int) ≤ 8 := by omega
      have hb2 : (l : Int) ≤ 2000001 := by omega
      go_enter Yba.func11, Yba.ntmps11
      go_wp2
      refine bodyPost_ret (results_none rfl _ _ _) rfl ⟨rfl, ?_⟩
      rw [HM.out]; rfl
    · obtain ⟨D, HD⟩ : ∃ D, Hid (D = hi - l) := ⟨_, rfl⟩
      obtain ⟨E, HE⟩ : ∃ E, Hid (E = D / 2) := ⟨_, rfl⟩
      obtain ⟨mid, Hmid⟩ : ∃ mid, Hid (mid = l + E) := ⟨_, rfl⟩
      have hAll : ¬ (D : Int) ≤ 8 ∧ (hi : Int) - (l : Int) = (D : Int) ∧ (D : Int) / 2 = (E : Int) ∧ (l : Int) + (E : Int) = (mid : Int) ∧ mid < n ∧ (mid : Int) < (n : Int) ∧ (l : Int) ≤ 2000001 ∧ (mid : Int) ≤ 2000001 ∧ (D : Int) ≤ 2000001 ∧ (E : Int) ≤ 2000001 := by
        have h1 := HD.out; have h2 := HE.out; have h3 := Hmid.out; omega
      obtain ⟨h1, h2, h3, h4, h5, h5', hb2, hb3, hb4, hb5⟩ := hAll
      have h3' : (D : Int).tdiv 2 = (E : Int) := by rw [Int.tdiv_eq_ediv_of_nonneg (by omega)]; exact h3
      have w1 : IntKind.i32.wrap (D : Int) = (D : Int) := wrap32_small _ (by omega) (by omega)
      have HM : Hid (mks l hi = (mid, D) :: (mks l mid ++ mks (mid + 1) hi)) := by show mks l hi = _; rw [mks_big l hi hbig, ← HD.out, ← HE.out, ← Hmid.out]
      have hcm : w.cell? ⟨W, mid, none⟩ = some _ := hr.cell mid h5
      have hfm := hr.free mid
      have hcs : w.cell? ⟨S, mid, none⟩ = some _ := hg.cell mid h5
      have hfs := hg.free mid
      have hd2 : mid - l ≤ d ∧ l ≤ n + 1 ∧ mid ≤ n ∧ hi - (mid + 1) ≤ d ∧ mid + 1 ≤ n + 1 := by
        have h1 := HD.out; have h2 := HE.out; have h3 := Hmid.out; omega
      have hmid : ∀ p ∈ mks l mid, p.1 < n := fun p hp => by
        have := (mks_in (mid - l) l mid (Nat.le_refl _) p hp).2.1; omega
      obtain ⟨r1, g1⟩ := setM_rows W S n hWS [(mid, D)] w f g hr hg (by intro p hp; simp at hp; subst hp; exact h5)
      obtain ⟨r2, g2⟩ := setM_rows W S n hWS (mks l mid) _ _ _ r1 g1 hmid
      have HC := fun _ : Unit => ih l mid _ _ _ hd2.1 hd2.2.2.1 hd2.2.1 r1 g1
      have HC2 := fun _ : Unit => ih (mid + 1) hi _ _ _ hd2.2.2.2.1 hhi hd2.2.2.2.2 r2 g2
      rw [Int.natCast_add] at HC2
      clear r1 g1 r2 g2
      have e1 : setM W S [(mid, D)] w = (w.setCell ⟨W, mid, none⟩ (.int .i32 (D : Int))).setCell ⟨S, mid, none⟩ (.bool true) := rfl
      rw [e1] at HC HC2
      have HEnd : Hid (setM W S (mks (mid + 1) hi) (setM W S (mks l mid) ((w.setCell ⟨W, mid, none⟩ (.int .i32 (D : Int))).setCell ⟨S, mid, none⟩ (.bool true))) = setM W S (mks l hi) w) := by
        show _ = _; rw [HM.out, setM, setM_append]
      generalize setM W S (mks l mid) ((w.setCell ⟨W, mid, none⟩ (.int .i32 (D : Int))).setCell ⟨S, mid, none⟩ (.bool true)) = w2 at HC HC2 HEnd
      generalize setM W S (mks (mid + 1) hi) w2 = w3 at HC2 HEnd
      generalize setM W S (mks l hi) w = w4 at HEnd ⊢
      go_enter Yba.func11, Yba.ntmps11
      clear hr hg ih HM hmid
      have hSW : S ≠ W := Ne.symm hWS
      go_wp2_with (go_at_call 11; first | (refine (HC ()).mono ?_; rintro e w' ⟨rfl, rfl⟩; clear HC) | (refine (HC2 ()).mono ?_; rintro e w' ⟨rfl, rfl⟩))
      go_end0
      exact ⟨rfl, HEnd.out⟩

end Go.Proofs.Ybulkdvcg

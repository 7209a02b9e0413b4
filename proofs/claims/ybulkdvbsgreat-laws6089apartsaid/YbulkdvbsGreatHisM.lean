/-
  History: what stands in memory on its way.
-/
import Derived.Test.YbulkdvbsGreatHis
import Derived.Test.YbulkdvbsGreatFin
import Derived.Test.YbulkdvbsGreatSerial
import Derived.Test.YbulkdvbsGreatSortU
import Derived.Test.YbulkdvbsGreatDense
import Derived.Test.YbulkdvbsGreatRdA
import Derived.Test.YbulkdvbsGreatNames
import Derived.Test.YbulkdvbsGreatRigW
import Derived.Test.YbulkdvbsGreatGraph
import Derived.Test.YbulkdvbsGreatDepsF
namespace Go.Proofs.YbulkdvbsGreat
open Go.RowKit
theorem res_set2 {w : World} {RB : Nat} {T Cm Ab Un : Int} {Se Rg cs : Bool} {o y a : Value} (h : w.heap[RB]? = some (.cells (resC T Cm Ab Un Se Rg cs o y a) 41)) (c : Int) : (w.setCell ⟨RB, 2, none⟩ (.int .i64 c)).heap[RB]? = some (.cells (resC T Cm c Un Se Rg cs o y a) 41) := heap_set _ _ _ _ _ _ h
theorem res_set3 {w : World} {RB : Nat} {T Cm Ab Un : Int} {Se Rg cs : Bool} {o y a : Value} (h : w.heap[RB]? = some (.cells (resC T Cm Ab Un Se Rg cs o y a) 41)) (c : Int) : (w.setCell ⟨RB, 3, none⟩ (.int .i64 c)).heap[RB]? = some (.cells (resC T Cm Ab c Se Rg cs o y a) 41) := heap_set _ _ _ _ _ _ h
theorem res_set0 {w : World} {RB : Nat} {T Cm Ab Un : Int} {Se Rg cs : Bool} {o y a : Value} (h : w.heap[RB]? = some (.cells (resC T Cm Ab Un Se Rg cs o y a) 41)) (c : Int) : (w.setCell ⟨RB, 0, none⟩ (.int .i64 c)).heap[RB]? = some (.cells (resC c Cm Ab Un Se Rg cs o y a) 41) := heap_set _ _ _ _ _ _ h
theorem res_set1 {w : World} {RB : Nat} {T Cm Ab Un : Int} {Se Rg cs : Bool} {o y a : Value} (h : w.heap[RB]? = some (.cells (resC T Cm Ab Un Se Rg cs o y a) 41)) (c : Int) : (w.setCell ⟨RB, 1, none⟩ (.int .i64 c)).heap[RB]? = some (.cells (resC T c Ab Un Se Rg cs o y a) 41) := heap_set _ _ _ _ _ _ h
theorem run_mapN (W : World) (x : Int) : (Instr.makeMap 49 (some (.int .i64 x))).run Ybaz.prog W = .ok (.map (some W.heap.size)) (W.alloc (.map #[] 0)) := by
  kernel_rfl
theorem res_set4 {w : World} {RB : Nat} {T Cm Ab Un : Int} {Se Rg cs : Bool} {o y a : Value} (h : w.heap[RB]? = some (.cells (resC T Cm Ab Un Se Rg cs o y a) 41)) (c : Bool) : (w.setCell ⟨RB, 4, none⟩ (.bool c)).heap[RB]? = some (.cells (resC T Cm Ab Un c Rg cs o y a) 41) := heap_set _ _ _ _ _ _ h
/-- The first pass: the end map. -/
structure H1 (kd tx : Nat → Nat) (w : World) (RB i : Nat) (wr : World) : Prop where
  k : Keep (fun _ => False) w wr
  hR : RB = w.heap.size
  res : wr.heap[RB]? = some (.cells (resC 0 0 0 0 false false false (.slice none 0 0) (.slice none 0 0) (.slice none 0 0)) 41)
  mp : MP wr 31 (RB + 1) i (intM .u64 (valF (endV kd tx i)))
theorem H1.quiet {kd tx : Nat → Nat} {w wr w' : World} {RB i : Nat} (h : H1 kd tx w RB i wr) (k : Keep (fun _ => False) wr w') : H1 kd tx w RB i w' := ⟨h.k.trans k (fun _ q => q.elim), h.hR, k.at h.res id, h.mp.keep k id⟩
theorem H1.put {kd tx : Nat → Nat} {w wr w' : World} {RB i : Nat} (h : H1 kd tx w RB i wr) (k : Keep (fun b => b = RB + 1) wr w') (m : MP w' 31 (RB + 1) (i + 1) (intM .u64 (valF (endV kd tx (i + 1))))) : H1 kd tx w RB (i + 1) w' := ⟨h.k.trans k (fun b q => .inr (by have := h.hR; have : b = RB + 1 := q; omega)), h.hR, k.at h.res (by show ¬ RB = RB + 1; omega), m⟩
/-- A key of the end map. -/
theorem key31 {key : Value} {kl : Lit} (h : keyOf Ybaz.prog 31 key = some kl) : ∃ x : Int, key = .int .u64 x ∧ kl = .int .u64 x := by
  have e : keyOf Ybaz.prog 31 key = mapKey Ybaz.prog 31 key := by simp [keyOf, Ybaz.underlying31]
  rw [e] at h
  cases key <;> simp [mapKey, Ybaz.underlying31] at h
  obtain ⟨⟨rfl, hw⟩, rfl⟩ := h
  exact ⟨_, rfl, rfl⟩
/-- The second pass: those visited, counted; the committed ones, listed. -/
structure H2 (kd tx : Nat → Nat) (M : Nat) (w : World) (RB r : Nat) (vis : Nat → Bool) (left : Lit → Bool) (cnt : Nat) (ta : Option Addr) (N tc : Nat) (f : Nat → Nat) (wr : World) : Prop where
  k : Keep (fun _ => False) w wr
  hR : RB = w.heap.size
  hr : RB + 2 ≤ r
  res : wr.heap[RB]? = some (.cells (resC 0 0 (cnt5 fun s => vis s && endF kd tx M s == some 97) (cnt5 fun s => vis s && endF kd tx M s == some 0) false false false (.slice none 0 0) (.slice none 0 0) (.slice none 0 0)) 41)
  mr : MR wr 31 (RB + 1) r M (intM .u64 (valF (endV kd tx M))) left cnt
  vl : ∀ t, 1 ≤ t → t ≤ 5 → (vis t = true ↔ (endF kd tx M t).isSome = true ∧ left (.int .u64 (t : Int)) = false)
  vec : Vec wr 31 1 ta N tc (fun j _ => .int .u64 (f j : Int))
  fN : N = cnt5 fun s => vis s && endF kd tx M s == some 99
  f1 : ∀ j, j < N → (1 ≤ f j ∧ f j ≤ 5) ∧ vis (f j) = true ∧ endF kd tx M (f j) = some 99
  inj : ∀ i j, i < N → j < N → f i = f j → i = j
  onto : ∀ t, 1 ≤ t → t ≤ 5 → vis t = true → endF kd tx M t = some 99 → ∃ j, j < N ∧ f j = t
  nw : ∀ g, ta = some ⟨g, 0, none⟩ → RB + 2 ≤ g
theorem H2.start {kd tx : Nat → Nat} {M : Nat} {w w2 w3 : World} {RB r cnt : Nat} (h : H1 kd tx w RB M w2) (k : Keep (fun _ => False) w2 w3) (hr : r = w2.heap.size) (m : MR w3 31 (RB + 1) r M (intM .u64 (valF (endV kd tx M))) (fun l => (intM .u64 (valF (endV kd tx M)) l).isSome) cnt) : H2 kd tx M w RB r (fun _ => false) (fun l => (intM .u64 (valF (endV kd tx M)) l).isSome) cnt none 0 0 (fun _ => 0) w3 where
  k := h.k.trans k (fun _ q => q.elim)
  hR := h.hR
  hr := by have := h.mp.lt; omega
  res := by
    have e : ∀ q : Nat → Bool, cnt5 (fun s => false && q s) = 0 := fun q => by simp [cnt5]
    have := k.at h.res id
    rw [e, e]
    exact this
  mr := m
  vl := fun t _ _ => by
    rw [intM_int, valF_at]
    unfold endV
    cases endF kd tx M t <;> simp
  vec := Vec.nil _ _ _ _
  fN := by simp [cnt5]
  f1 := fun j q => by omega
  inj := fun i j q => by omega
  onto := fun t _ _ q => by simp at q
  nw := fun g q => by simp at q
section
variable {kd tx : Nat → Nat} {M : Nat} {w wr w3 : World} {RB r : Nat} {vis : Nat → Bool} {left : Lit → Bool} {cnt cnt' : Nat} {ta : Option Addr} {N tc : Nat} {f : Nat → Nat}
theorem H2.fresh (h : H2 kd tx M w RB r vis left cnt ta N tc f wr) {t : Nat} (ht : 1 ≤ t ∧ t ≤ 5) (hl : left (.int .u64 (t : Int)) = true) : vis t = false := by
  cases e : vis t with
  | false => rfl
  | true => have := ((h.vl t ht.1 ht.2).1 e).2; rw [hl] at this; simp at this
theorem H2.vl' (h : H2 kd tx M w RB r vis left cnt ta N tc f wr) {t : Nat} (hend : (endF kd tx M t).isSome = true) : ∀ s, 1 ≤ s → s ≤ 5 → ((vis s || s == t) = true ↔ (endF kd tx M s).isSome = true ∧ lless left (.int .u64 (t : Int)) (.int .u64 (s : Int)) = false) := fun s h1 h5 => by
  unfold lless
  by_cases e : s = t
  · subst e; simp [hend]
  · have e1 : ¬ (Lit.int .u64 (s : Int)) = .int .u64 (t : Int) := fun q => by injection q with _ q; omega
    have e2 : (s == t) = false := by simpa using e
    rw [e2, Bool.or_false, h.vl s h1 h5]
    simp [e1]
/-- The counts behind a visit. -/
theorem cnt_end (vis : Nat → Bool) (kd tx : Nat → Nat) (M t k z : Nat) (ht : 1 ≤ t ∧ t ≤ 5) (hv : vis t = false) (he : endF kd tx M t = some k) : (cnt5 fun s => (vis s || s == t) && endF kd tx M s == some z) = (cnt5 fun s => vis s && endF kd tx M s == some z) + (if k = z then 1 else 0) := by
  rw [cnt5_step vis (fun s => endF kd tx M s == some z) t ht hv, he]
  by_cases e : k = z <;> simp [e]
/-- An aborted or an open one is visited: the Result's block is turned. -/
theorem H2.other (h : H2 kd tx M w RB r vis left cnt ta N tc f wr) {t k : Nat} (ht : 1 ≤ t ∧ t ≤ 5) (hl : left (.int .u64 (t : Int)) = true) (he : endF kd tx M t = some k) (hk : k ≠ 99) (k3 : Keep (fun i => i = r) wr w3) (m : MR w3 31 (RB + 1) r M (intM .u64 (valF (endV kd tx M))) (lless left (.int .u64 (t : Int))) cnt') {w4 : World} (k4 : Keep (fun i => i = RB) w3 w4)
    (hres : w4.heap[RB]? = some (.cells (resC 0 0 ((cnt5 fun s => vis s && endF kd tx M s == some 97) + (if k = 97 then 1 else 0) : Nat) ((cnt5 fun s => vis s && endF kd tx M s == some 0) + (if k = 0 then 1 else 0) : Nat) false false false (.slice none 0 0) (.slice none 0 0) (.slice none 0 0)) 41)) :
    H2 kd tx M w RB r (fun s => vis s || s == t) (lless left (.int .u64 (t : Int))) cnt' ta N tc f w4 := by
  have hv := h.fresh ht hl
  have hR := h.hR
  have hr := h.hr
  have ir : ∀ g, ta = some ⟨g, 0, none⟩ → ¬ g = r := fun g e q => by
    obtain ⟨cur, hb⟩ := h.vec.block_ty e
    obtain ⟨o, h1, h2⟩ := h.mr.iter_walk
    rw [← q, hb] at h1
    injection h1 with h1
    rw [← h1] at h2
    simp [Obj.isWalk] at h2
  exact {
    k := (h.k.trans k3 (fun b q => .inr (by have : b = r := q; omega))).trans k4 (fun b q => .inr (by have : b = RB := q; omega))
    hR := hR
    hr := hr
    res := by rw [cnt_end vis kd tx M t k 97 ht hv he, cnt_end vis kd tx M t k 0 ht hv he]; exact hres
    mr := m.keep k4 (by show ¬ RB + 1 = RB; omega) (by show ¬ r = RB; omega)
    vl := h.vl' (by rw [he]; rfl)
    vec := (h.vec.keep k3 ir).keep k4 (fun g e q => by have := h.nw g e; have : g = RB := q; omega)
    fN := by rw [cnt_end vis kd tx M t k 99 ht hv he, if_neg hk]; exact h.fN
    f1 := fun j hj => ⟨(h.f1 j hj).1, by rw [(h.f1 j hj).2.1]; rfl, (h.f1 j hj).2.2⟩
    inj := h.inj
    onto := fun s h1 h5 q e => by
      by_cases es : s = t
      · subst es; rw [he] at e; injection e with e; exact absurd e hk
      · have e2 : (s == t) = false := by simpa using es
        rw [e2, Bool.or_false] at q
        exact h.onto s h1 h5 q e
    nw := h.nw }
theorem H2.notr (h : H2 kd tx M w RB r vis left cnt ta N tc f wr) : ∀ g, ta = some ⟨g, 0, none⟩ → ¬ g = r := fun g e q => by
  obtain ⟨cur, hb⟩ := h.vec.block_ty e
  obtain ⟨o, h1, h2⟩ := h.mr.iter_walk
  rw [← q, hb] at h1
  injection h1 with h1
  rw [← h1] at h2
  simp [Obj.isWalk] at h2
/-- A committed one is visited: it is listed. -/
theorem H2.com (h : H2 kd tx M w RB r vis left cnt ta N tc f wr) {t : Nat} (ht : 1 ≤ t ∧ t ≤ 5) (hl : left (.int .u64 (t : Int)) = true) (he : endF kd tx M t = some 99) (k3 : Keep (fun i => i = r) wr w3) (m : MR w3 31 (RB + 1) r M (intM .u64 (valF (endV kd tx M))) (lless left (.int .u64 (t : Int))) cnt') (o : Obj) {w4 : World} {g cap : Nat}
    (hv4 : Vec w4 31 1 (some ⟨g, 0, none⟩) (N + 1) cap (push N (fun j _ => .int .u64 (f j : Int)) (fun _ => .int .u64 (t : Int)))) (k4 : Keep (fun b => ta = some ⟨b, 0, none⟩) (w3.alloc o) w4) (hg : ta = some ⟨g, 0, none⟩ ∨ w3.heap.size ≤ g) :
    H2 kd tx M w RB r (fun s => vis s || s == t) (lless left (.int .u64 (t : Int))) cnt' (some ⟨g, 0, none⟩) (N + 1) cap (put1 f N t) w4 := by
  have hv := h.fresh ht hl
  have hR := h.hR
  have hr := h.hr
  have ir := h.notr
  have ka := Keep.alloc (fun _ => False) w3 o
  have hz := h.k.size
  have hz3 := k3.size
  have hrl := h.mr.lt
  have n97 := cnt_end vis kd tx M t 99 97 ht hv he
  have n0 := cnt_end vis kd tx M t 99 0 ht hv he
  have n99 := cnt_end vis kd tx M t 99 99 ht hv he
  simp only [show ¬ (99 : Nat) = 97 by omega, show ¬ (99 : Nat) = 0 by omega, if_false, if_true, Nat.add_zero] at n97 n0 n99
  exact {
    k := ((h.k.trans k3 (fun b q => .inr (by have : b = r := q; omega))).trans ka (fun _ q => q.elim)).trans k4 (fun b q => .inr (by have := h.nw b q; omega))
    hR := hR
    hr := hr
    res := by
      rw [n97, n0]
      exact k4.at (ka.at (k3.at h.res (by show ¬ RB = r; omega)) id) (fun e => by have := h.nw RB e; omega)
    mr := (m.keep ka id id).keep k4 (fun e => by have := h.nw _ e; have := ir _ e; obtain ⟨cur, hb⟩ := h.vec.block_ty e; exact h.mr.mp.not_cells hb rfl) (fun e => ir r e rfl)
    vl := h.vl' (by rw [he]; rfl)
    vec := hv4.congr Nat.one_pos (fun j c _ _ => by
      unfold push put1
      by_cases e : j = N <;> simp [e])
    fN := by rw [n99, ← h.fN]
    f1 := fun j hj => by
      by_cases e : j = N
      · subst e; rw [put1_at]; exact ⟨ht, by simp, he⟩
      · rw [put1_ne _ _ e]
        have := h.f1 j (by omega)
        exact ⟨this.1, by rw [this.2.1]; rfl, this.2.2⟩
    inj := fun a b ha hb q => by
      by_cases ea : a = N
      · by_cases eb : b = N
        · omega
        · subst ea
          rw [put1_at, put1_ne _ _ eb] at q
          have := (h.f1 b (by omega)).2.1
          rw [← q, hv] at this
          simp at this
      · by_cases eb : b = N
        · subst eb
          rw [put1_at, put1_ne _ _ ea] at q
          have := (h.f1 a (by omega)).2.1
          rw [q, hv] at this
          simp at this
        · rw [put1_ne _ _ ea, put1_ne _ _ eb] at q
          exact h.inj a b (by omega) (by omega) q
    onto := fun s h1 h5 q e => by
      by_cases es : s = t
      · subst es; exact ⟨N, by omega, put1_at _ _ _⟩
      · have e2 : (s == t) = false := by simpa using es
        rw [e2, Bool.or_false] at q
        obtain ⟨j, hj, e⟩ := h.onto s h1 h5 q e
        exact ⟨j, by omega, by rw [put1_ne _ _ (by omega)]; exact e⟩
    nw := fun g' e => by
      have e1 : g = g' := (Addr.mk.inj (Option.some.inj e)).1
      rw [← e1]
      rcases hg with q | q
      · exact h.nw g q
      · omega }
/-- All are visited. -/
theorem H2.all (h : H2 kd tx M w RB r vis left cnt ta N tc f wr) (hl : ∀ l, left l = false) : ∀ t, 1 ≤ t → t ≤ 5 → (vis t = true ↔ (endF kd tx M t).isSome = true) := fun t h1 h5 => by
  rw [h.vl t h1 h5, hl]
  simp
/-- Behind the second pass: the Result's block, the map, the committed ones. -/
structure H3 (kd tx : Nat → Nat) (M : Nat) (w : World) (RB : Nat) (ta : Option Addr) (TX N : Nat) (f : Nat → Nat) (wr : World) : Prop where
  k : Keep (fun _ => False) w wr
  hR : RB = w.heap.size
  res : wr.heap[RB]? = some (.cells (resC 0 0 (cnt5 fun s => endF kd tx M s == some 97) (cnt5 fun s => endF kd tx M s == some 0) false false false (.slice none 0 0) (.slice none 0 0) (.slice none 0 0)) 41)
  mp : MP wr 31 (RB + 1) M (intM .u64 (valF (endV kd tx M)))
  row : Row wr TX N (fun j => .int .u64 (f j : Int))
  tb : 0 < N → ta = some ⟨TX, 0, none⟩ ∧ TX < wr.heap.size
  fN : N = cnt5 fun s => endF kd tx M s == some 99
  f1 : ∀ j, j < N → (1 ≤ f j ∧ f j ≤ 5) ∧ endF kd tx M (f j) = some 99
  inj : ∀ i j, i < N → j < N → f i = f j → i = j
  onto : ∀ t, 1 ≤ t → t ≤ 5 → endF kd tx M t = some 99 → ∃ j, j < N ∧ f j = t
  nw : RB + 2 ≤ TX
theorem cnt_vis {vis : Nat → Bool} {kd tx : Nat → Nat} {M : Nat} (hv : ∀ t, 1 ≤ t → t ≤ 5 → (vis t = true ↔ (endF kd tx M t).isSome = true)) (z : Nat) : (cnt5 fun s => vis s && endF kd tx M s == some z) = cnt5 fun s => endF kd tx M s == some z := by
  unfold cnt5
  apply List.countP_congr
  intro s hs
  have h5 : 1 ≤ s ∧ s ≤ 5 := by simp at hs; omega
  cases e : endF kd tx M s with
  | none => simp
  | some k =>
    have := (hv s h5.1 h5.2).2 (by rw [e]; rfl)
    simp [this]
theorem H2.end3 (h : H2 kd tx M w RB r vis left cnt ta N tc f wr) (hl : ∀ l, left l = false) : ∃ TX, H3 kd tx M w RB ta TX N f wr := by
  have hv := h.all hl
  have res := h.res
  rw [cnt_vis hv 97, cnt_vis hv 0] at res
  have hN := h.fN
  rw [cnt_vis hv 99] at hN
  have hz := h.mr.lt
  have hr := h.hr
  by_cases h0 : 0 < N
  · obtain ⟨g, e, hg, rw'⟩ := h.vec.row h0
    exact ⟨g, h.k, h.hR, res, h.mr.mp, rw', fun _ => ⟨e, hg⟩, hN, fun j hj => ⟨(h.f1 j hj).1, (h.f1 j hj).2.2⟩, h.inj, fun t h1 h5 e => h.onto t h1 h5 ((hv t h1 h5).2 (by rw [e]; rfl)) e, h.nw g e⟩
  · exact ⟨wr.heap.size, h.k, h.hR, res, h.mr.mp, ⟨fun i hi => by omega, fun i => by simp [World.frozen?]⟩, fun q => absurd q h0, hN, fun j hj => by omega, fun i j q => by omega, fun t h1 h5 e => h.onto t h1 h5 ((hv t h1 h5).2 (by rw [e]; rfl)) e, by omega⟩
theorem H3.shuf {TX : Nat} {w' : World} {σ : Nat → Nat} (h : H3 kd tx M w RB ta TX N f wr) (hs : Bij N σ) (row : Row w' TX N (fun i => .int .u64 (f (σ i) : Int))) (k : Keep (fun b => b = TX) wr w') : H3 kd tx M w RB ta TX N (fun j => f (σ j)) w' := by
  obtain ⟨q, hq⟩ := hs
  have hR := h.hR
  have hn := h.nw
  exact {
    k := h.k.trans k (fun b e => .inr (by have : b = TX := e; omega))
    hR := hR
    res := k.at h.res (by show ¬ RB = TX; omega)
    mp := h.mp.keep k (by show ¬ RB + 1 = TX; omega)
    row := row
    tb := fun h0 => ⟨(h.tb h0).1, Nat.lt_of_lt_of_le (h.tb h0).2 k.size⟩
    fN := h.fN
    f1 := fun j hj => h.f1 (σ j) (hq j hj).1
    inj := fun i j hi hj e => by
      have := h.inj (σ i) (σ j) (hq i hi).1 (hq j hj).1 e
      rw [← (hq i hi).2.2.1, ← (hq j hj).2.2.1, this]
    onto := fun t h1 h5 e => by
      obtain ⟨j, hj, r⟩ := h.onto t h1 h5 e
      exact ⟨q j, (hq j hj).2.1, by show f (σ (q j)) = t; rw [(hq j hj).2.2.2]; exact r⟩
    nw := hn }
/-- How many transactions the map holds. -/
theorem H3.len {TX : Nat} (h : H3 kd tx M w RB ta TX N f wr) (htx : ∀ i, i < M → 1 ≤ tx i ∧ tx i ≤ 5) (ty : TypeId) : (Builtin.len_ #[46] ty #[.map (some (RB + 1))]).run Ybaz.prog wr = .ok (.int .i64 ((cnt5 fun s => (endF kd tx M s).isSome : Nat) : Int)) wr := by
  obtain ⟨L, hL, _, hrun⟩ := h.mp.len keyed31 Ybaz.underlying46
  have e := keys_count hL [.int .u64 1, .int .u64 2, .int .u64 3, .int .u64 4, .int .u64 5] (by simp) (fun l hl => by
    obtain ⟨x, rfl, hx⟩ := intM_some hl
    unfold valF at hx
    by_cases h0 : 0 ≤ x
    · rw [if_pos h0] at hx
      unfold endV at hx
      rw [Option.isSome_map] at hx
      obtain ⟨j, hj, q⟩ := (endF_some M x.toNat).1 hx
      have := htx j hj
      have h5 : x = 1 ∨ x = 2 ∨ x = 3 ∨ x = 4 ∨ x = 5 := by omega
      rcases h5 with rfl | rfl | rfl | rfl | rfl <;> simp
    · rw [if_neg h0] at hx; simp at hx)
  have e2 : L.length = cnt5 fun s => (endF kd tx M s).isSome := by
    rw [e]
    unfold cnt5
    have v : ∀ t : Nat, (intM .u64 (valF (endV kd tx M)) (.int .u64 (t : Int))).isSome = (endF kd tx M t).isSome := fun t => by
      rw [intM_int, valF_at]; unfold endV; rw [Option.isSome_map]
    have eA : ([.int .u64 1, .int .u64 2, .int .u64 3, .int .u64 4, .int .u64 5] : List Lit) = [1, 2, 3, 4, 5].map (fun t : Nat => Lit.int .u64 (t : Int)) := rfl
    rw [eA, ← List.countP_eq_length_filter, List.countP_map]
    exact List.countP_congr (fun t _ => by show (intM .u64 (valF (endV kd tx M)) (.int .u64 (t : Int))).isSome = true ↔ _; rw [v t])
  rw [← e2]
  exact hrun ty
/-- Behind the counts. -/
structure H4 (kd tx : Nat → Nat) (M : Nat) (w : World) (RB : Nat) (ta : Option Addr) (TX N : Nat) (f : Nat → Nat) (Se Rg : Bool) (a : Value) (wr : World) : Prop where
  k : Keep (fun _ => False) w wr
  hR : RB = w.heap.size
  res : wr.heap[RB]? = some (.cells (resC (cnt5 fun s => (endF kd tx M s).isSome) N (cnt5 fun s => endF kd tx M s == some 97) (cnt5 fun s => endF kd tx M s == some 0) Se Rg false (.slice none 0 0) (.slice none 0 0) a) 41)
  mp : MP wr 31 (RB + 1) M (intM .u64 (valF (endV kd tx M)))
  row : 0 < N → Row wr TX N (fun j => .int .u64 (f j : Int))
  tb : 0 < N → ta = some ⟨TX, 0, none⟩ ∧ TX < wr.heap.size
  nw : RB + 2 ≤ TX
theorem H4.quiet {Se Rg : Bool} {a : Value} {TX : Nat} {w' : World} (h : H4 kd tx M w RB ta TX N f Se Rg a wr) {F : Nat → Prop} (k : Keep F wr w') (hF : ∀ b, F b → wr.heap.size ≤ b) : H4 kd tx M w RB ta TX N f Se Rg a w' := by
  have hz := h.k.size
  have hR := h.hR
  have hm := h.mp.lt
  exact ⟨h.k.trans k (fun b q => .inr (by have := hF b q; omega)), hR, k.at h.res (fun q => by have := hF _ q; have := heap_lt h.res; omega), h.mp.keep k (fun q => by have := hF _ q; omega), fun h0 => (h.row h0).keep (k.block TX (h.tb h0).2 (fun q => by have := hF _ q; have := (h.tb h0).2; omega)), fun h0 => ⟨(h.tb h0).1, Nat.lt_of_lt_of_le (h.tb h0).2 k.size⟩, h.nw⟩
/-- The nodes of the first j committed ones. -/
def ndF (f : Nat → Nat) : Nat → Nat → Option Nat
  | 0 => fun _ => none
  | j + 1 => put1 (ndF f j) (f j) (some j)
theorem nodeF_put (nd : Nat → Option Nat) (t j : Nat) : (fun z => if z = (t : Int) then some (Value.int .i64 (j : Int)) else nodeF nd z) = nodeF (put1 nd t (some j)) := by
  funext z
  unfold nodeF put1
  by_cases e : z = (t : Int)
  · subst e; simp
  · by_cases h0 : 0 ≤ z
    · have : ¬ z.toNat = t := by omega
      simp [e, h0, this]
    · simp [e, h0]
theorem ndF_some {f : Nat → Nat} (inj : ∀ i j, i < N → j < N → f i = f j → i = j) : ∀ j, j ≤ N → ∀ t u, ndF f j t = some u ↔ u < j ∧ f u = t
  | 0, _, t, u => by simp [ndF]
  | j + 1, hj, t, u => by
    have ih := ndF_some inj j (by omega) t u
    unfold ndF put1
    by_cases e : t = f j
    · subst e
      simp only [if_true]
      constructor
      · intro q; injection q with q; subst q; exact ⟨by omega, rfl⟩
      · rintro ⟨h1, h2⟩; rw [inj u j (by omega) (by omega) h2]
    · simp only [e, if_false, ih]
      constructor
      · rintro ⟨h1, h2⟩; exact ⟨by omega, h2⟩
      · rintro ⟨h1, h2⟩
        by_cases q : u = j
        · subst q; exact absurd h2.symm e
        · exact ⟨by omega, h2⟩
end
theorem res_set5 {w : World} {RB : Nat} {T Cm Ab Un : Int} {Se Rg cs : Bool} {o y a : Value} (h : w.heap[RB]? = some (.cells (resC T Cm Ab Un Se Rg cs o y a) 41)) : (w.setCell ⟨RB, 5, none⟩ (.bool false)).heap[RB]? = some (.cells (resC T Cm Ab Un Se Rg cs o y a) 41) := heap_set _ _ _ _ _ _ h
theorem res_set6 {w : World} {RB : Nat} {T Cm Ab Un : Int} {Se Rg cs : Bool} {o y a : Value} (h : w.heap[RB]? = some (.cells (resC T Cm Ab Un Se Rg cs o y a) 41)) (c : Bool) : (w.setCell ⟨RB, 6, none⟩ (.bool c)).heap[RB]? = some (.cells (resC T Cm Ab Un Se c cs o y a) 41) := heap_set _ _ _ _ _ _ h
theorem res_set13' {w : World} {RB : Nat} {T Cm Ab Un : Int} {Se Rg cs : Bool} {o y a : Value} (h : w.heap[RB]? = some (.cells (resC T Cm Ab Un Se Rg cs o y a) 41)) (c : Value) : (w.setCell ⟨RB, 13, none⟩ c).heap[RB]? = some (.cells (resC T Cm Ab Un Se Rg cs o y c) 41) := heap_set _ _ _ _ _ _ h
/-- All that stands behind the node map and the key space. -/
structure H5 (kd tx ky : Nat → Nat) (M OB : Nat) (w : World) (RB : Nat) (ta : Option Addr) (TX N : Nat) (f : Nat → Nat) (NB : Nat) (node : Nat → Option Nat) (KS NK : Nat) (wt : Nat → Prop) (num : Nat → Nat) (sx : Nat → ByteArray) (mb : Nat) (sa : Option Addr) (sc mn : Nat) (Se Rg : Bool) (a : Value) (wr : World) : Prop where
  h4 : H4 kd tx M w RB ta TX N f Se Rg a wr
  op : OP wr OB M kd tx ky
  nm : NM wr NB N N node
  ks : KSp wr KS NK wt num sx mb sa sc mn
  nNB : NB ≠ RB
  nKS : KS ≠ RB ∧ mb ≠ RB ∧ ∀ g, sa = some ⟨g, 0, none⟩ → g ≠ RB
  nOB : OB ≠ RB
section
variable {kd tx ky : Nat → Nat} {M OB : Nat} {w : World} {RB : Nat} {ta : Option Addr} {TX N : Nat} {f : Nat → Nat} {NB : Nat} {node : Nat → Option Nat} {KS NK : Nat} {wt : Nat → Prop} {num : Nat → Nat} {sx : Nat → ByteArray} {mb : Nat} {sa : Option Addr} {sc mn : Nat} {Se Rg : Bool} {a : Value} {wr w' : World}
theorem H5.quiet (h : H5 kd tx ky M OB w RB ta TX N f NB node KS NK wt num sx mb sa sc mn Se Rg a wr) (k : Keep (fun _ => False) wr w') : H5 kd tx ky M OB w RB ta TX N f NB node KS NK wt num sx mb sa sc mn Se Rg a w' :=
  ⟨h.h4.quiet k (fun _ q => q.elim), h.op.keep k id, h.nm.keep k id, h.ks.keep k id id (fun _ _ => id), h.nNB, h.nKS, h.nOB⟩
/-- The Result's block is turned. -/
theorem H5.turn {Se' Rg' : Bool} {a' : Value} (h : H5 kd tx ky M OB w RB ta TX N f NB node KS NK wt num sx mb sa sc mn Se Rg a wr) (k : Keep (fun b => b = RB) wr w') (hr : w'.heap[RB]? = some (.cells (resC (cnt5 fun s => (endF kd tx M s).isSome) N (cnt5 fun s => endF kd tx M s == some 97) (cnt5 fun s => endF kd tx M s == some 0) Se' Rg' false (.slice none 0 0) (.slice none 0 0) a') 41)) : H5 kd tx ky M OB w RB ta TX N f NB node KS NK wt num sx mb sa sc mn Se' Rg' a' w' := by
  have hR := h.h4.hR
  have hn := h.h4.nw
  exact ⟨⟨h.h4.k.trans k (fun b q => .inr (by have : b = RB := q; omega)), hR, hr, h.h4.mp.keep k (by show ¬ RB + 1 = RB; omega), fun h0 => (h.h4.row h0).keep (k.block TX (h.h4.tb h0).2 (by show ¬ TX = RB; omega)), fun h0 => ⟨(h.h4.tb h0).1, Nat.lt_of_lt_of_le (h.h4.tb h0).2 k.size⟩, hn⟩,
    h.op.keep k h.nOB, h.nm.keep k h.nNB, h.ks.keep k h.nKS.1 h.nKS.2.1 h.nKS.2.2, h.nNB, h.nKS, h.nOB⟩
theorem H5.set4 (h : H5 kd tx ky M OB w RB ta TX N f NB node KS NK wt num sx mb sa sc mn Se Rg a wr) (c : Bool) : H5 kd tx ky M OB w RB ta TX N f NB node KS NK wt num sx mb sa sc mn c Rg a (wr.setCell ⟨RB, 4, none⟩ (.bool c)) := h.turn (Keep.setCell wr ⟨RB, 4, none⟩ (.bool c)) (res_set4 h.h4.res c)
theorem H5.set5 (h : H5 kd tx ky M OB w RB ta TX N f NB node KS NK wt num sx mb sa sc mn Se Rg a wr) : H5 kd tx ky M OB w RB ta TX N f NB node KS NK wt num sx mb sa sc mn Se Rg a (wr.setCell ⟨RB, 5, none⟩ (.bool false)) := h.turn (Keep.setCell wr ⟨RB, 5, none⟩ (.bool false)) (res_set5 h.h4.res)
theorem H5.set6 (h : H5 kd tx ky M OB w RB ta TX N f NB node KS NK wt num sx mb sa sc mn Se Rg a wr) (c : Bool) : H5 kd tx ky M OB w RB ta TX N f NB node KS NK wt num sx mb sa sc mn Se c a (wr.setCell ⟨RB, 6, none⟩ (.bool c)) := h.turn (Keep.setCell wr ⟨RB, 6, none⟩ (.bool c)) (res_set6 h.h4.res c)
theorem H5.set13 (h : H5 kd tx ky M OB w RB ta TX N f NB node KS NK wt num sx mb sa sc mn Se Rg a wr) (c : Value) : H5 kd tx ky M OB w RB ta TX N f NB node KS NK wt num sx mb sa sc mn Se Rg c (wr.setCell ⟨RB, 13, none⟩ c) := h.turn (Keep.setCell wr ⟨RB, 13, none⟩ c) (res_set13' h.h4.res c)
end
/-- What the key space knows. -/
theorem KH.of {w : World} {OB M : Nat} {kd tx ky : Nat → Nat} {KS NK : Nat} {num : Nat → Nat} {sx : Nat → ByteArray} {mb : Nat} {sa : Option Addr} {sc mn : Nat} (h : OP w OB M kd tx ky) (k : KSp w KS NK (Wrt kd ky M) num sx mb sa sc mn) : KH kd ky (Wrt kd ky M) num M :=
  ⟨fun i hi ha => by have := h.hk i hi; unfold Acc at ha; omega, fun i hi e => ⟨i, hi, e, rfl⟩, k.inj⟩
/-- The end map's values are bytes. -/
theorem endM_u8 {kd tx : Nat → Nat} {M : Nat} {l : Lit} {v : Value} (h : intM .u64 (valF (endV kd tx M)) l = some v) : isU8 v := by
  obtain ⟨x, rfl, _⟩ := intM_some (by rw [h]; rfl)
  rw [intM_int] at h
  unfold valF at h
  split at h
  · unfold endV at h
    rw [Option.map_eq_some_iff] at h
    obtain ⟨k, _, rfl⟩ := h
    exact ⟨_, rfl⟩
  · simp at h
/-- The graph and the closure behind it. -/
def G41 (w16 : World) (N NK SB NS sq : Nat) (su sl : Nat → Nat) (sk : Nat → Int) (G p1 p2 p3 p4 p5 p6 : Nat) (wx : World) : Prop := Keep (fun _ => False) w16 wx ∧ ∃ sz, DEf N NK p1 p2 p3 p4 p5 p6 SB NS sq su sl sk none wx (dB sz SB) ∧ (p3 ≠ p4 ∧ p1 ≠ SB ∧ p3 ≠ SB ∧ p4 ≠ SB) ∧ w16.heap.size ≤ G ∧ G < sz ∧ ∃ E la lc aa ac ka kc ga gc last src dst kd, GB wx G N E la lc aa ac ka kc ga gc last src dst kd ∧ E ≤ 100000 ∧ ∀ b, ga = some ⟨b, 0, none⟩ → ¬ dB sz SB b
/-- What History leaves in the Result. -/
def HistOut (kd tx ky : Nat → Nat) (M : Nat) (w w' : World) (RB : Nat) : Prop := Keep (fun _ => False) w w' ∧ w.heap.size ≤ RB ∧ ∃ Se Rg cs o y a, w'.heap[RB]? = some (.cells (resC (cnt5 fun s => (endF kd tx M s).isSome) (cnt5 fun s => endF kd tx M s == some 99) (cnt5 fun s => endF kd tx M s == some 97) (cnt5 fun s => endF kd tx M s == some 0) Se Rg cs o y a) 41) ∧
  (Se = true ↔ Ser tx (fun t => endF kd tx M t = some 99) M) ∧ (Rg = true ↔ ∀ j, j < M → ¬ Fault kd tx ky j)
def RetHist (kd tx ky : Nat → Nat) (M : Nat) (w w' : World) (e : Ending) : Prop := ∃ RB, e = .returned (.pointer (some ⟨RB, 0, none⟩)) ∧ HistOut kd tx ky M w w' RB
end Go.Proofs.YbulkdvbsGreat

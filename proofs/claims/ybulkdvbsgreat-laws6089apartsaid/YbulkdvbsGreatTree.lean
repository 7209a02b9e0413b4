/-
  The segment tree of the writers, one key at a time, walked.
-/
import Derived.Test.YbulkdvbsGreatEdge
namespace Go.Proofs.YbulkdvbsGreat
open Go.RowKit

theorem GB.keep {w w' : World} {G n E : Nat} {la : Option Addr} {lc : Nat} {aa : Option Addr} {ac : Nat} {ka : Option Addr} {kc : Nat} {ga : Option Addr} {gc : Nat} {last src dst kd : Nat → Int} (h : GB w G n E la lc aa ac ka kc ga gc last src dst kd) {F : Nat → Prop} (k : Keep F w w') (hF : ∀ b, F b → ¬ gOwn G la aa ka b ∧ ¬ ga = some ⟨b, 0, none⟩) : GB w' G n E la lc aa ac ka kc ga gc last src dst kd :=
  ⟨k.at h.blk (fun q => (hF _ q).1 (.inl rfl)), h.vl.keep k (fun _ hb q => (hF _ q).1 (.inr (.inl hb))), h.va.keep k (fun _ hb q => (hF _ q).1 (.inr (.inr (.inl hb)))), h.vk.keep k (fun _ hb q => (hF _ q).1 (.inr (.inr (.inr hb)))), h.vg.keep k (fun _ hb q => (hF _ q).2 hb), h.ne, h.hl, h.hs⟩
theorem GB.next {w : World} {G n E : Nat} {la : Option Addr} {lc : Nat} {aa : Option Addr} {ac : Nat} {ka : Option Addr} {kc : Nat} {ga : Option Addr} {gc : Nat} {last src dst kd : Nat → Int} (h : GB w G n E la lc aa ac ka kc ga gc last src dst kd) : GNext w w G n E la aa ka ga gc := ⟨E, la, lc, aa, ac, ka, kc, last, src, dst, kd, h, Keep.refl _ _, fun _ q => .inl q, by omega⟩
theorem GB.own_lt {w : World} {G n E : Nat} {la : Option Addr} {lc : Nat} {aa : Option Addr} {ac : Nat} {ka : Option Addr} {kc : Nat} {ga : Option Addr} {gc : Nat} {last src dst kd : Nat → Int} (h : GB w G n E la lc aa ac ka kc ga gc last src dst kd) {b : Nat} (q : gOwn G la aa ka b) : b < w.heap.size := by
  rcases q with q | q | q | q
  · subst q; exact heap_lt h.blk
  · exact h.vl.lt q
  · exact h.va.lt q
  · exact h.vk.lt q
/-- Blocks that are not of a graph's types are none of hers. -/
theorem GB.apart {w : World} {G n E : Nat} {la : Option Addr} {lc : Nat} {aa : Option Addr} {ac : Nat} {ka : Option Addr} {kc : Nat} {ga : Option Addr} {gc : Nat} {last src dst kd : Nat → Int} (h : GB w G n E la lc aa ac ka kc ga gc last src dst kd) {b : Nat} {cs : Array Value} {t : TypeId} (hb : w.heap[b]? = some (.cells cs t)) (h1 : t ≠ 201) (h2 : t ≠ 21) (h3 : t ≠ 96) : ¬ gOwn G la aa ka b := fun q => by
  rcases q with q | q | q | q
  · subst q; exact ne_of_types hb h.blk h1 rfl
  · obtain ⟨c, hc⟩ := h.vl.block_ty q; exact ne_of_types hb hc h2 rfl
  · obtain ⟨c, hc⟩ := h.va.block_ty q; exact ne_of_types hb hc h2 rfl
  · obtain ⟨c, hc⟩ := h.vk.block_ty q; exact ne_of_types hb hc h3 rfl
theorem GNext.pre {w w1 w' : World} {G n E : Nat} {la aa ka ga : Option Addr} {gc : Nat} (k : Keep (fun _ => False) w w1) (h : GNext w1 w' G n E la aa ka ga gc) : GNext w w' G n E la aa ka ga gc := by
  obtain ⟨E', la', lc', aa', ac', ka', kc', last', src', dst', kd', h1, h2, h3, h4⟩ := h
  exact ⟨E', la', lc', aa', ac', ka', kc', last', src', dst', kd', h1, (k.wide (fun _ q => q.elim)).trans h2 (fun _ q => .inl q), fun b q => or2 (h3 b q) id (fun q => Nat.le_trans k.size q), h4⟩
theorem GNext.keep {w w' : World} {G n E : Nat} {la aa ka ga : Option Addr} {gc : Nat} (h : GNext w w' G n E la aa ka ga gc) : Keep (gOwn G la aa ka) w w' := by
  obtain ⟨E', la', lc', aa', ac', ka', kc', last', src', dst', kd', h1, h2, h3, h4⟩ := h
  exact h2

/-- A segment tree over m keys, over the graph in block G of n nodes: the leaves hold nodes or none. -/
structure ST (w : World) (TR G : Nat) (down : Bool) (m n NB : Nat) (nd : Nat → Int) : Prop where
  blk : w.heap[TR]? = some (.cells #[.pointer (some ⟨G, 0, none⟩), .bool down, .slice (some ⟨NB, 0, none⟩) (m + m) (m + m)] 269)
  row : Row w NB (m + m) (fun i => .int .i64 (nd i))
  ty : ∃ cs, w.heap[NB]? = some (.cells cs 3)
  leaf : ∀ i, i < m → -1 ≤ nd (m + i) ∧ nd (m + i) < n
theorem ST.keep {w w' : World} {TR G : Nat} {down : Bool} {m n NB : Nat} {nd : Nat → Int} (h : ST w TR G down m n NB nd) {F : Nat → Prop} (k : Keep F w w') (h1 : ¬ F TR) (h2 : ¬ F NB) : ST w' TR G down m n NB nd := by
  obtain ⟨cs, hc⟩ := h.ty
  exact ⟨k.at h.blk h1, h.row.keep (k.block NB (heap_lt hc) h2), ⟨cs, k.at hc h2⟩, h.leaf⟩

set_option maxHeartbeats 2000000 in
set_option maxRecDepth 100000 in
theorem slot_any (TR G : Nat) (down : Bool) (m n NB : Nat) (nd : Nat → Int) (i : Nat) (w : World) (h : ST w TR G down m n NB nd) (hi : i < m) (hm : m ≤ 3) :
    Calls Ybaz.prog 109 #[.pointer (some ⟨TR, 0, none⟩), .int .i64 (i : Int)] w fun e w' => e = .returned (.int .i64 (nd (m + i))) ∧ ∃ q, w' = w.drewN q := by
  have c2 : w.cell? ⟨TR, 2, none⟩ = some (.slice (some ⟨NB, 0, none⟩) (m + m) (m + m)) := cell_of w TR 2 _ _ h.blk
  have e0 := h.row.cell (m + i) (by omega)
  have q1 : ((m : Int) + (m : Int)).tdiv 2 = (m : Int) := by rw [Int.tdiv_eq_ediv_of_nonneg (by omega)]; omega
  have m1 : (m : Int) ≤ 3 := by omega
  have i1 : (i : Int) < (m : Int) := by omega
  have q2 : ((m : Int) + (i : Int)).toNat = m + i := by omega
  have q3 : (0 : Int) ≤ (m : Int) + (i : Int) := by omega
  have q4 : (m : Int) + (i : Int) < (m : Int) + (m : Int) := by omega
  clear h
  go_enter Ybaz.func109, Ybaz.ntmps109
  go_wp2
  go_quiet (fail)
  go_wp2
  go_ret
  exact ⟨rfl, _, rfl⟩

set_option maxHeartbeats 2000000 in
set_option maxRecDepth 100000 in
theorem build_leaf (TR G : Nat) (down : Bool) (m n NB : Nat) (nd : Nat → Int) (i : Nat) (w : World) (h : ST w TR G down m n NB nd) (hi : i < m) (hm : m ≤ 3) :
    Calls Ybaz.prog 175 #[.pointer (some ⟨TR, 0, none⟩), .int .i64 ((m : Int) + (i : Int))] w fun e w' => e = .returned (.int .i64 (nd (m + i))) ∧ w' = w := by
  have c2 : w.cell? ⟨TR, 2, none⟩ = some (.slice (some ⟨NB, 0, none⟩) (m + m) (m + m)) := cell_of w TR 2 _ _ h.blk
  have e0 := h.row.cell (m + i) (by omega)
  have hl := h.leaf i hi
  have m1 : (m : Int) ≤ 3 := by omega
  have i1 : (i : Int) < (m : Int) := by omega
  have q2 : ((m : Int) + (i : Int)).toNat = m + i := by omega
  have q3 : (0 : Int) ≤ (m : Int) + (i : Int) := by omega
  have q4 : (m : Int) + (i : Int) < (m : Int) + (m : Int) := by omega
  have q5 : (nd (m + i) == -2) = false := by simp; omega
  have q6 : ¬ nd (m + i) = -2 := by omega
  clear h
  go_enter Ybaz.func175, Ybaz.ntmps175
  go_wp2
  go_ret
  exact ⟨rfl, rfl⟩

set_option maxHeartbeats 2000000 in
set_option maxRecDepth 100000 in
theorem edge_any (TR G : Nat) (down : Bool) (m n NB : Nat) (nd : Nat → Int) (u : Nat) (v d : Int) (w : World) (E : Nat) (la : Option Addr) (lc : Nat) (aa : Option Addr) (acp : Nat) (ka : Option Addr) (kc : Nat) (ga : Option Addr) (gc : Nat) (last src dst kd : Nat → Int) (h : ST w TR G down m n NB nd) (hg : GB w G n E la lc aa acp ka kc ga gc last src dst kd)
    (hu : u < n) (hv : -1 ≤ v ∧ v < n) (hn : n ≤ 5) (hd : 1 ≤ d ∧ d ≤ 63) (hE : E ≤ 100000) :
    Calls Ybaz.prog 174 #[.pointer (some ⟨TR, 0, none⟩), .int .i64 (u : Int), .int .i64 v, .int .u8 d] w fun e w' => e = .returned (.tuple #[]) ∧ GNext w w' G n E la aa ka ga gc := by
  have c0 : w.cell? ⟨TR, 0, none⟩ = some (.pointer (some ⟨G, 0, none⟩)) := cell_of w TR 0 _ _ h.blk
  have c1 : w.cell? ⟨TR, 1, none⟩ = some (.bool down) := cell_of w TR 1 _ _ h.blk
  clear h
  by_cases hneg : v = -1
  · subst hneg
    have hn1 := hg.next
    clear hg
    go_enter Ybaz.func174, Ybaz.ntmps174
    go_wp2
    go_end0
    exact ⟨rfl, hn1⟩
  · obtain ⟨x, rfl⟩ : ∃ x : Nat, v = (x : Int) := ⟨v.toNat, by omega⟩
    have q6 : ((x : Int) == -1) = false := by simp
    cases down with
    | true =>
      have HA := fun _ : Unit => addEdge_any G n E la lc aa acp ka kc ga gc last src dst kd u x d w hg hu (by omega) hn hd hE
      clear hg
      go_enter Ybaz.func174, Ybaz.ntmps174
      go_wp2_with (go_at_call 89; refine (HA ()).mono ?_; rintro e w2 ⟨rfl, h2⟩)
      go_end0
      exact ⟨rfl, h2⟩
    | false =>
      have HA := fun _ : Unit => addEdge_any G n E la lc aa acp ka kc ga gc last src dst kd x u d w hg (by omega) hu hn hd hE
      clear hg
      go_enter Ybaz.func174, Ybaz.ntmps174
      go_wp2_with (go_at_call 89; refine (HA ()).mono ?_; rintro e w2 ⟨rfl, h2⟩)
      go_end0
      exact ⟨rfl, h2⟩

set_option maxHeartbeats 4000000 in
set_option maxRecDepth 100000 in
/-- 'set': the leaf is u; what lies above is whatever. -/
theorem set_any (TR G : Nat) (down : Bool) (m n NB : Nat) (nd : Nat → Int) (i u : Nat) (w : World) (h : ST w TR G down m n NB nd) (hi : i < m) (hm : m ≤ 3) (hu : u < n) :
    Calls Ybaz.prog 113 #[.pointer (some ⟨TR, 0, none⟩), .int .i64 (i : Int), .int .i64 (u : Int)] w fun e w' => e = .returned (.tuple #[]) ∧ (∃ nd', ST w' TR G down m n NB nd') ∧ Keep (fun b => b = NB) w w' := by
  have c2 : w.cell? ⟨TR, 2, none⟩ = some (.slice (some ⟨NB, 0, none⟩) (m + m) (m + m)) := cell_of w TR 2 _ _ h.blk
  have e0 := h.row.cell (m + i) (by omega)
  have f0 := h.row.free (m + i)
  have q1 : ((m : Int) + (m : Int)).tdiv 2 = (m : Int) := by rw [Int.tdiv_eq_ediv_of_nonneg (by omega)]; omega
  have m1 : (m : Int) ≤ 3 := by omega
  have i1 : (i : Int) < (m : Int) := by omega
  have q2 : ((m : Int) + (i : Int)).toNat = m + i := by omega
  have q3 : (0 : Int) ≤ (m : Int) + (i : Int) := by omega
  have q4 : (m : Int) + (i : Int) < (m : Int) + (m : Int) := by omega
  obtain ⟨cs, hcs⟩ := h.ty
  have nTN : NB ≠ TR := ne_of_types hcs h.blk (by decide)
  have H0 : Hid (ST (w.setCell ⟨NB, m + i, none⟩ (.int .i64 (u : Int))) TR G down m n NB (fun j => if j = m + i then (u : Int) else nd j)) :=
    ⟨(Keep.setCell w ⟨NB, m + i, none⟩ _).at h.blk (fun q => nTN q.symm), (h.row.set (m + i) (.int .i64 (u : Int)) (by omega)).congr (fun j _ => by split <;> rfl), ⟨_, heap_set w NB (m + i) _ _ _ hcs⟩, fun j hj => by
      have := h.leaf j hj
      split <;> omega⟩
  have HK0 : Hid (Keep (fun b => b = NB) w (w.setCell ⟨NB, m + i, none⟩ (.int .i64 (u : Int)))) := Keep.setCell w ⟨NB, m + i, none⟩ _
  clear h
  obtain ⟨s0, hs0⟩ : ∃ s0 : Nat, s0 = (m + i) / 2 := ⟨_, rfl⟩
  have q5 : ((m : Int) + (i : Int)).tdiv 2 = (s0 : Int) := by rw [Int.tdiv_eq_ediv_of_nonneg (by omega)]; omega
  have s1 : s0 < m := by omega
  have s2 : (s0 : Int) ≤ 3 := by omega
  go_enter Ybaz.func113, Ybaz.ntmps113
  go_wp2
  clear e0 f0 c2
  generalize w.setCell ⟨NB, m + i, none⟩ (.int .i64 (u : Int)) = wS at *
  go_loopw [6] (fun s wr => ∃ (k : Nat) (nd' : Nat → Int), k < m ∧ s = .int .i64 (k : Int) ∧ Hid (ST wr TR G down m n NB nd') ∧ Hid (Keep (fun b => b = NB) w wr)) (fun s _ => (intOf s).toNat)
  case atStart => exact ⟨s0, _, s1, by congr 1, H0, HK0⟩
  case round =>
    obtain ⟨k, nd', hk, rfl, HS, HK⟩ := hrel
    cases k with
    | zero =>
      go_wp2
      go_end0
      exact ⟨rfl, ⟨nd', HS.out⟩, HK.out⟩
    | succ k =>
      have kc : ((k + 1 : Nat) : Int) = (k : Int) + 1 := by omega
      rw [kc]
      have k1 : (1 : Int) ≤ (k : Int) + 1 := by omega
      have k2 : (k : Int) + 1 < (m : Int) + (m : Int) := by omega
      have k3 : ((k : Int) + 1).toNat = k + 1 := by omega
      have k4 : (0 : Int) ≤ (k : Int) + 1 := by omega
      have c2 : wr.cell? ⟨TR, 2, none⟩ = some (.slice (some ⟨NB, 0, none⟩) (m + m) (m + m)) := cell_of wr TR 2 _ _ HS.out.blk
      have e0 := HS.out.row.cell (k + 1) (by omega)
      have f0 := HS.out.row.free (k + 1)
      by_cases hq : nd' (k + 1) = -2
      · go_wp2
        go_end0
        exact ⟨rfl, ⟨nd', HS.out⟩, HK.out⟩
      · have hq2 : (nd' (k + 1) == -2) = false := by simpa using hq
        obtain ⟨s1', hs1'⟩ : ∃ s1' : Nat, Hid (s1' = (k + 1) / 2) := ⟨_, rfl⟩
        have q6 : ((k : Int) + 1).tdiv 2 = (s1' : Int) := by rw [Int.tdiv_eq_ediv_of_nonneg (by omega)]; have := hs1'.out; omega
        have q7 : (s1' : Int) ≤ 3 ∧ s1' < k + 1 ∧ s1' < m := by have := hs1'.out; omega
        obtain ⟨q7, q8, q9⟩ := q7
        obtain ⟨cs', hcs'⟩ := HS.out.ty
        have H2 : Hid (ST (wr.setCell ⟨NB, k + 1, none⟩ (.int .i64 (-2))) TR G down m n NB (fun j => if j = k + 1 then -2 else nd' j)) :=
          ⟨(Keep.setCell wr ⟨NB, k + 1, none⟩ _).at HS.out.blk (fun q => nTN q.symm), (HS.out.row.set (k + 1) (.int .i64 (-2)) (by omega)).congr (fun j _ => by split <;> rfl), ⟨_, heap_set wr NB (k + 1) _ _ _ hcs'⟩, fun j hj => by
            have := HS.out.leaf j hj
            split <;> omega⟩
        have HK2 : Hid (Keep (fun b => b = NB) w (wr.setCell ⟨NB, k + 1, none⟩ (.int .i64 (-2)))) := HK.out.trans (Keep.setCell wr ⟨NB, k + 1, none⟩ _) (fun _ h => .inl h)
        go_wp2
        go_roundw
        case rel => exact ⟨s1', _, q9, by go_num, H2, HK2⟩
        case measure =>
          simp [intOf]; omega
end Go.Proofs.YbulkdvbsGreat

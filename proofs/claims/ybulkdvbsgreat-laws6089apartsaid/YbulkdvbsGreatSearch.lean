/-
  newSearcher, walkBack, walked.
-/
import Derived.Test.YbulkdvbsGreatSmall
namespace Go.Proofs.YbulkdvbsGreat
open Go.RowKit
attribute [local go_sem ↓] exec_make155 exec_make95

/-- A searcher in block S over the graph in block G. -/
structure SR (w : World) (S G n : Nat) (k : Int) (RE PA VI : Nat) (re pa vi : Nat → Int) : Prop where
  blk : w.heap[S]? = some (.cells #[.pointer (some ⟨G, 0, none⟩), .int .i32 k, .slice (some ⟨RE, 0, none⟩) n n, .slice (some ⟨PA, 0, none⟩) n n, .slice (some ⟨VI, 0, none⟩) n n] 293)
  rr : Row w RE n (fun i => .int .i32 (re i))
  rp : Row w PA n (fun i => .int .i32 (pa i))
  rv : Row w VI n (fun i => .int .u8 (vi i))
  lt : RE < w.heap.size ∧ PA < w.heap.size ∧ VI < w.heap.size
  ne : S ≠ RE ∧ S ≠ PA ∧ S ≠ VI ∧ RE ≠ PA ∧ RE ≠ VI ∧ PA ≠ VI
def NewSr (w w' : World) (G n : Nat) (e : Ending) : Prop := ∃ S RE PA VI, e = .returned (.pointer (some ⟨S, 0, none⟩)) ∧ SR w' S G n 0 RE PA VI (fun _ => 0) (fun _ => 0) (fun _ => 0) ∧ w.heap.size ≤ S ∧ w.heap.size ≤ RE ∧ w.heap.size ≤ PA ∧ w.heap.size ≤ VI

/-- Three rows and a box, however they were made. -/
theorem newSr_of (w v : World) (G n RE PA VI : Nat) (S : Nat) (hS : v.heap.size = S) (hR : v.heap[RE]? = some (.cells (mc (.int .i32 0) 1 n) 21)) (hP : v.heap[PA]? = some (.cells (mc (.int .i32 0) 1 n) 21)) (hV : v.heap[VI]? = some (.cells (mc (.int .u8 0) 1 n) 96)) (h1 : w.heap.size ≤ RE) (h2 : w.heap.size ≤ PA) (h3 : w.heap.size ≤ VI) (ne : RE ≠ PA) (hk : Keep (fun _ => False) w v) :
    NewSr w (v.alloc (.cells #[.pointer (some ⟨G, 0, none⟩), .int .i32 0, .slice (some ⟨RE, 0, none⟩) n n, .slice (some ⟨PA, 0, none⟩) n n, .slice (some ⟨VI, 0, none⟩) n n] 293)) G n (.returned (.pointer (some ⟨S, 0, none⟩))) ∧ Keep (fun _ => False) w (v.alloc (.cells #[.pointer (some ⟨G, 0, none⟩), .int .i32 0, .slice (some ⟨RE, 0, none⟩) n n, .slice (some ⟨PA, 0, none⟩) n n, .slice (some ⟨VI, 0, none⟩) n n] 293)) := by
  subst hS
  have l1 := heap_lt hR
  have l2 := heap_lt hP
  have l3 := heap_lt hV
  have := hk.size
  refine ⟨⟨v.heap.size, RE, PA, VI, rfl, ⟨heap_alloc_new _ _, Row.made1 _ _ _ _ 21 rfl (heap_grow _ hR), Row.made1 _ _ _ _ 21 rfl (heap_grow _ hP), Row.made1 _ _ _ _ 96 rfl (heap_grow _ hV), by simp; omega, by omega, by omega, by omega, ne, ne_of_types hR hV (by decide), ne_of_types hP hV (by decide)⟩, by omega, h1, h2, h3⟩, hk.trans (Keep.alloc (fun _ => False) _ _) (fun _ q => q.elim)⟩

theorem newSr_drew {w v : World} {G n : Nat} {e : Ending} (h : NewSr w v G n e ∧ Keep (fun _ => False) w v) : NewSr w v.drew G n e ∧ Keep (fun _ => False) w v.drew := by
  obtain ⟨⟨S, RE, PA, VI, h1, h2, h3⟩, h4⟩ := h
  exact ⟨⟨S, RE, PA, VI, h1, ⟨h2.blk, ⟨h2.rr.cell, h2.rr.free⟩, ⟨h2.rp.cell, h2.rp.free⟩, ⟨h2.rv.cell, h2.rv.free⟩, h2.lt, h2.ne⟩, h3⟩, h4.drew⟩
theorem three (w : World) (a b c : Obj) : (((w.alloc a).alloc b).alloc c).heap[w.heap.size]? = some a ∧ (((w.alloc a).alloc b).alloc c).heap[w.heap.size + 1]? = some b ∧ (((w.alloc a).alloc b).alloc c).heap[w.heap.size + 1 + 1]? = some c := by
  refine ⟨heap_grow _ (heap_grow _ (heap_alloc_new _ _)), ?_, ?_⟩
  · have := heap_alloc_new (w.alloc a) b
    have e : (w.alloc a).heap.size = w.heap.size + 1 := by simp
    rw [e] at this
    exact heap_grow _ this
  · have := heap_alloc_new ((w.alloc a).alloc b) c
    simpa using this

set_option maxHeartbeats 4000000 in
set_option maxRecDepth 100000 in
theorem newSr_any (G n : Nat) (lc : Nat) (la : Option Addr) (w : World) (hn : n ≤ 5) (h : w.cell? ⟨G, 1, none⟩ = some (.slice la n lc)) : Calls Ybaz.prog 138 #[.pointer (some ⟨G, 0, none⟩)] w fun e w' => NewSr w w' G n e ∧ Keep (fun _ => False) w w' := by
  have HN := fun _ : Unit => nodes_any G n lc la w h
  have r95 := fun W => run_mkv 95 21 (.int .i32 0) 1 4 Ybaz.underlying95 inf21 (by omega) W n (by omega)
  have r155 := fun W => run_mkv 155 96 (.int .u8 0) 1 1 Ybaz.underlying155 inf96 (by omega) W n (by omega)
  clear h
  go_enter Ybaz.func138, Ybaz.ntmps138
  go_upto_region 2 with (first
    | (go_at_call 127; refine (HN ()).mono ?_; rintro e w2 ⟨rfl, rfl⟩))
  clear HN
  go_region
  all_goals
    go_wp2
    go_ret
    refine newSr_drew (newSr_of w _ G n _ _ _ _ (by simp) ?_ ?_ ?_ (by omega) (by omega) (by omega) (by omega) (((Keep.alloc (fun _ => False) w _).trans (Keep.alloc (fun _ => False) _ _) (fun _ q => q.elim)).trans (Keep.alloc (fun _ => False) _ _) (fun _ q => q.elim)))
    all_goals first
      | exact (three w _ _ _).1
      | exact (three w _ _ _).2.1
      | exact (three w _ _ _).2.2

theorem Vec.row {w : World} {e : TypeId} {a : Option Addr} {n c : Nat} {f : Nat → Nat → Value} (h : Vec w e 1 a n c f) (hn : 0 < n) : ∃ g, a = some ⟨g, 0, none⟩ ∧ g < w.heap.size ∧ Row w g n (fun i => f i 0) := by
  obtain ⟨g, h1, h2, h3⟩ := h.blk hn
  exact ⟨g, h1, h2, fun i hi => by have := h3.cell i 0 hi (by omega); simpa using this, h3.free⟩
theorem Vec.cap {w : World} {e : TypeId} {k : Nat} {a : Option Addr} {n c : Nat} {f : Nat → Nat → Value} (h : Vec w e k a n c f) : n ≤ c := by
  rcases h.own.2 with ⟨h0, h1⟩ | ⟨g, cap, cur, hv, h1, hb, hle, _⟩
  · injection h0 with h2 h3 h4; omega
  · injection hv with h2 h3 h4; omega
/-- A path that was found. -/
def PathOut (w w' : World) (n : Nat) (e : Ending) : Prop := ∃ (m A B c1 c2 : Nat) (f : Nat → Nat) (d : Nat → Int), 1 ≤ m ∧ m ≤ 6 ∧ e = .returned (.tuple #[.slice (some ⟨A, 0, none⟩) m c1, .slice (some ⟨B, 0, none⟩) m c2]) ∧ Row w' A m (fun i => .int .i64 (f i : Int)) ∧ Row w' B m (fun i => .int .u8 (d i)) ∧ (∀ i, i < m → f i < n) ∧ w.heap.size ≤ A ∧ w.heap.size ≤ B ∧ A < w'.heap.size ∧ B < w'.heap.size ∧ m ≤ c1 ∧ m ≤ c2

set_option maxHeartbeats 4000000 in
set_option maxRecDepth 100000 in
theorem walkBack_any (S G n : Nat) (k : Int) (RE PA VI : Nat) (re pa vi : Nat → Int) (R : Nat → Prop) (dep : Nat → Nat) (u : Nat) (last : Int) (w : World) (hn : n ≤ 5) (h : SR w S G n k RE PA VI re pa vi) (c0 : w.cell? ⟨G, 0, none⟩ = some (.int .i64 (n : Int))) (hG : G < w.heap.size)
    (hR : ∀ v, R v → v < n ∧ dep v ≤ 5 ∧ (pa v = -1 ∨ ∃ p : Nat, pa v = (p : Int) ∧ R p ∧ dep p < dep v)) (hu : R u) :
    Calls Ybaz.prog 195 #[.pointer (some ⟨S, 0, none⟩), .int .i64 (u : Int), .int .u8 last] w fun e w' => PathOut w w' n e ∧ Keep (fun _ => False) w w' := by
  have n1 : (n : Int) ≤ 5 := by omega
  have HB : Hid _ := h.blk
  have HRp : Hid _ := h.rp
  have HRv : Hid _ := h.rv
  have hlt := h.lt
  have HR : Hid _ := hR
  have HC : Hid _ := c0
  have hSl := heap_lt h.blk
  clear h hR c0
  go_enter Ybaz.func195, Ybaz.ntmps195
  go_wp2
  go_loopw [1, 2, 8, 9] (fun s1 s2 s8 s9 wr => ∃ (x ls : Int) (m : Nat) (a1 a2 : Option Addr) (c1 c2 : Nat) (f : Nat → Nat) (d : Nat → Int), s1 = .int .i64 x ∧ s2 = .int .u8 ls ∧ s8 = .slice a1 m c1 ∧ s9 = .slice a2 m c2 ∧ m ≤ 6 ∧ Hid ((x = -1 ∧ 1 ≤ m) ∨ ∃ v : Nat, x = (v : Int) ∧ R v ∧ m + dep v ≤ 5) ∧ Hid (Vec wr 3 1 a1 m c1 (fun i _ => .int .i64 (f i : Int))) ∧ Hid (Vec wr 96 1 a2 m c2 (fun i _ => .int .u8 (d i))) ∧ Hid (∀ i, i < m → f i < n) ∧ Hid (∀ b, a1 = some ⟨b, 0, none⟩ → w.heap.size ≤ b) ∧ Hid (∀ b, a2 = some ⟨b, 0, none⟩ → w.heap.size ≤ b) ∧ Hid (Keep (fun _ => False) w wr)) (fun s1 _ _ _ _ => if intOf s1 < 0 then 0 else dep (intOf s1).toNat + 1)
  case atStart => exact ⟨(u : Int), last, 0, none, none, 0, 0, fun _ => 0, fun _ => 0, rfl, rfl, rfl, rfl, by omega, .inr ⟨u, rfl, hu, by have := (HR.out u hu).2.1; omega⟩, Vec.nil _ _ _ _, Vec.nil _ _ _ _, (fun i hi => by omega), nofun, nofun, Keep.refl _ _⟩
  case round =>
    obtain ⟨x, ls, m, a1, a2, c1, c2, f, d, rfl, rfl, rfl, rfl, hm, HX, H1, H2, HF, HA1, HA2, HK⟩ := hrel
    have sz := HK.out.size
    rcases HX.out with ⟨rfl, hm1⟩ | ⟨v, rfl, hv, hmv⟩
    · obtain ⟨A, rfl, hA, rA⟩ := H1.out.row hm1
      obtain ⟨B, rfl, hB, rB⟩ := H2.out.row hm1
      have lA := HA1.out A rfl
      have lB := HA2.out B rfl
      have hAB : A ≠ B := fun q => H1.out.apart H2.out (by decide) rfl (by rw [q])
      have HR1 := fun _ : Unit => rev_i64 (some ⟨A, 0, none⟩) A m c1 (fun i => (f i : Int)) wr (by omega) (fun _ => rfl) rA
      have HR2 : Hid (∀ v, Keep (fun k => k = A) wr v → Calls Ybaz.prog 231 #[.slice (some ⟨B, 0, none⟩) m c2] v fun e w' => e = .returned (.tuple #[]) ∧ ∃ σ : Nat → Nat, (∀ i, i < m → σ i < m) ∧ Row w' B m (fun i => .int .u8 (d (σ i))) ∧ Keep (fun k => k = B) v w') := fun v kv => rev_u8 (some ⟨B, 0, none⟩) B m c2 d v (by omega) (fun _ => rfl) (rB.keep (kv.block B hB (fun q => hAB q.symm)))
      go_wp2_with (first
        | (go_at_call 230; refine (HR1 ()).mono ?_; rintro e w2 ⟨rfl, h2⟩; obtain ⟨σ, hσ, hr2, hk2⟩ := h2; have HK2 : Hid _ := hk2; have HRA : Hid _ := hr2; have Hσ : Hid _ := hσ; clear hk2 hr2 hσ HR1)
        | (go_at_call 231; refine (HR2.out _ HK2.out).mono ?_; rintro e w3 ⟨rfl, h3⟩; obtain ⟨τ, hτ, hr3, hk3⟩ := h3; have HK3 : Hid _ := hk3; have HRB : Hid _ := hr3; clear hk3 hr3))
      go_ret2
      have s2 := HK2.out.size
      have s3 := HK3.out.size
      exact ⟨⟨m, A, B, c1, c2, fun i => f (σ i), fun i => d (τ i), hm1, hm, rfl, HRA.out.keep (HK3.out.block A (by omega) hAB), HRB.out, (fun i hi => HF.out _ (Hσ.out i hi)), lA, lB, by omega, by omega, H1.out.cap, H2.out.cap⟩, (HK.out.trans HK2.out (fun b q => .inr (by subst q; exact lA))).trans HK3.out (fun b q => .inr (by subst q; exact lB))⟩
    · obtain ⟨hvn, hd5, hpa⟩ := HR.out v hv
      have v1 : (v : Int) < (n : Int) := by omega
      have v2 : (v : Int).toNat = v := by omega
      have hBr := HK.out.at HB.out (fun q => q)
      have c0 : wr.cell? ⟨S, 0, none⟩ = some (.pointer (some ⟨G, 0, none⟩)) := cell_of wr S 0 _ _ hBr
      have g0 : wr.cell? ⟨G, 0, none⟩ = some (.int .i64 (n : Int)) := (HK.out.cell ⟨G, 0, none⟩ hG (fun q => q)).trans HC.out
      have hv1 := H1.out.alloc (Obj.cells #[.int .i64 (v : Int)] 3)
      have hm8 : m ≤ 100000000 := by omega
      go_upto_region 7 with (first
        | (at_builtin; refine wpList_push (wr.alloc (Obj.cells #[.int .i64 (v : Int)] 3)) rfl _ _ 62 rfl 3 1 8 _ Ybaz.underlying62 inf3 rfl Nat.one_pos (by decide) a1 m c1 _ rfl hv1 ⟨wr.heap.size, 0, none⟩ 1 rfl (fun _ => .int .i64 (v : Int)) (new1 wr _ 3) (fun _ _ => rfl) hm8 ?_; intro g3 cap3 w3 hv3 hk3 hg3 hl3; clear hv1))
      have HV3 : Hid _ := hv3
      have HK3 : Hid (Keep (fun b => a1 = some ⟨b, 0, none⟩) wr w3) := (Keep.alloc _ wr _).trans hk3 (fun _ q => .inl q)
      have hG3 : w.heap.size ≤ g3 := by
        rcases hg3 with q | q
        · exact HA1.out _ q
        · simp at q; omega
      have H2b : Hid _ := H2.out.keep HK3.out (fun b hb q => H2.out.apart H1.out (by decide) hb q)
      have HKw : Hid (Keep (fun _ => False) w w3) := HK.out.trans HK3.out (fun b q => .inr (HA1.out b q))
      clear hv3 hk3 hg3 hBr c0 g0
      have hv1 := H2b.out.alloc (Obj.cells #[.int .u8 ls] 96)
      go_upto_region 8 with (first
        | (at_builtin; refine wpList_push (w3.alloc (Obj.cells #[.int .u8 ls] 96)) rfl _ _ 155 rfl 96 1 1 _ Ybaz.underlying155 inf96 rfl Nat.one_pos (by decide) a2 m c2 _ rfl hv1 ⟨w3.heap.size, 0, none⟩ 1 rfl (fun _ => .int .u8 ls) (new1 w3 _ 96) (fun _ _ => rfl) hm8 ?_; intro g4 cap4 w4 hv4 hk4 hg4 hl4; clear hv1))
      have HV4 : Hid _ := hv4
      have HK4 : Hid (Keep (fun b => a2 = some ⟨b, 0, none⟩) w3 w4) := (Keep.alloc _ w3 _).trans hk4 (fun _ q => .inl q)
      have s3 := HKw.out.size
      have hG4 : w.heap.size ≤ g4 := by
        rcases hg4 with q | q
        · exact HA2.out _ q
        · simp at q; omega
      have HKw4 : Hid (Keep (fun _ => False) w w4) := HKw.out.trans HK4.out (fun b q => .inr (HA2.out b q))
      have HV3b : Hid _ := HV3.out.keep HK4.out (fun b hb q => HV3.out.apart H2b.out (by decide) hb q)
      clear hv4 hk4 hg4
      have hBr := HKw4.out.at HB.out (fun q => q)
      have c3 : w4.cell? ⟨S, 3, none⟩ = some (.slice (some ⟨PA, 0, none⟩) n n) := cell_of w4 S 3 _ _ hBr
      have c4 : w4.cell? ⟨S, 4, none⟩ = some (.slice (some ⟨VI, 0, none⟩) n n) := cell_of w4 S 4 _ _ hBr
      have ep : w4.cell? ⟨PA, v, none⟩ = some (.int .i32 (pa v)) := (HKw4.out.cell ⟨PA, v, none⟩ hlt.2.1 (fun q => q)).trans (HRp.out.cell v hvn)
      have ev : w4.cell? ⟨VI, v, none⟩ = some (.int .u8 (vi v)) := (HKw4.out.cell ⟨VI, v, none⟩ hlt.2.2 (fun q => q)).trans (HRv.out.cell v hvn)
      have pw : IntKind.i64.wrap (pa v) = pa v := by
        rw [IntKind.wrap_i64]
        rcases hpa with q | ⟨p, q, hp, _⟩
        · omega
        · have := (HR.out p hp).1; omega
      have HPA : Hid _ := hpa
      clear hBr hpa
      go_wp2
      go_roundw
      case rel =>
        refine ⟨pa v, vi v, m + 1, some ⟨g3, 0, none⟩, some ⟨g4, 0, none⟩, cap3, cap4, fun i => if i = m then v else f i, fun i => if i = m then ls else d i, rfl, rfl, rfl, rfl, by omega, ?_, HV3b.out.congr Nat.one_pos (fun i c _ _ => by unfold push; split <;> simp_all), HV4.out.congr Nat.one_pos (fun i c _ _ => by unfold push; split <;> simp_all), (fun i hi => ?_), (fun b q => ?_), (fun b q => ?_), HKw4⟩
        · rcases HPA.out with q | ⟨p, q, hp, hdp⟩
          · exact .inl ⟨q, by omega⟩
          · exact .inr ⟨p, q, hp, by omega⟩
        · show (if i = m then v else f i) < n
          split
          · exact hvn
          · exact HF.out i (by omega)
        · injection q with q; injection q with q; omega
        · injection q with q; injection q with q; omega
      case measure =>
        have hv0 : ¬ (v : Int) < 0 := by omega
        simp only [intOf, hv0, if_false, v2]
        rcases HPA.out with q | ⟨p, q, hp, hdp⟩
        · have : pa v < 0 := by omega
          simp only [this, if_true]; omega
        · have h1 : ¬ pa v < 0 := by omega
          have h2 : (pa v).toNat = p := by omega
          simp only [h1, if_false, h2]; omega
end Go.Proofs.YbulkdvbsGreat

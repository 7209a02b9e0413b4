/-
  order, walked.
-/
import Derived.Test.YbulkdvbsGreatOrdQ
namespace Go.Proofs.YbulkdvbsGreat
open Go.RowKit
attribute [local go_sem ↓] exec_make62
attribute [local go_sem ↓ 2000] exec_app

/-- How the count of the predecessors stands: k nodes have been looked at. -/
def O1 (w1 wr : World) (G n PR : Nat) (ga : Option Addr) (gc k : Nat) (p : Nat → Nat) : Prop :=
  Row wr PR n (fun i => .int .i64 (p i : Int)) ∧ Keep (fun b => b = G ∨ b = PR) w1 wr ∧
  ((k = 0 ∧ (∃ E la lc aa acp ka kc last src dst kd, GB wr G n E la lc aa acp ka kc ga gc last src dst kd ∧ E ≤ 100000) ∧ (∀ v, v < n → p v = 0)) ∨
    (0 < k ∧ ∃ E la lc FB NX KN first next kd, GL wr G n E la lc ga gc FB NX KN vnil first next kd ∧ E ≤ 100000 ∧ PR < FB ∧ PR < NX ∧ PR < KN ∧ ∀ v, v < n → p v = sm first next (fun _ => false) v k))
/-- Behind out there. -/
def O1o (wr w' : World) (G n PR : Nat) (ga : Option Addr) (gc k : Nat) (p : Nat → Nat) (e : Ending) : Prop :=
  ∃ E la lc FB NX KN first next kd, OutOf NX KN (first k) (first (k + 1)) e ∧ GL w' G n E la lc ga gc FB NX KN vnil first next kd ∧ E ≤ 100000 ∧ PR < FB ∧ PR < NX ∧ PR < KN ∧ (∀ v, v < n → p v = sm first next (fun _ => false) v k) ∧ Keep (fun b => b = G) wr w'
theorem out_st (w1 : World) (G n PR : Nat) (ga : Option Addr) (gc k : Nat) (p : Nat → Nat) (w : World) (h : O1 w1 w G n PR ga gc k p) (hn : n ≤ 5) (hk : k < n) (hPR : PR < w.heap.size) :
    Calls Ybaz.prog 128 #[.pointer (some ⟨G, 0, none⟩), .int .i64 (k : Int)] w fun e w' => O1o w w' G n PR ga gc k p e := by
  obtain ⟨_, _, ⟨rfl, ⟨E, la, lc, aa, acp, ka, kc, last, src, dst, kd, hg, hE⟩, hz⟩ | ⟨_, E, la, lc, FB, NX, KN, first, next, kd, hg, hE, h1, h2, h3, h4⟩⟩ := h
  · refine (out_first G n E la lc aa acp ka kc ga gc last src dst kd 0 w hg hk hn hE).mono ?_
    rintro e w' ⟨E2, la2, lc2, FB, NX, KN, first, next, kd2, r1, r2, r3, r4, r5, r6, r7⟩
    exact ⟨E2, la2, lc2, FB, NX, KN, first, next, kd2, r1, r2, r7, by omega, by omega, by omega, fun v hv => by rw [hz v hv]; rfl, r3⟩
  · refine (out_any G n E la lc ga gc FB NX KN vnil first next kd k w hg hk hn hE).mono ?_
    rintro e w' ⟨r1, q, rfl⟩
    exact ⟨E, la, lc, FB, NX, KN, first, next, kd, r1, hg.keep ((Keep.refl (fun _ => False) _).drewN _) id (fun _ _ q => q) id id id, hE, h1, h2, h3, h4, (Keep.refl _ _).drewN _⟩

/-- Behind order. -/
def OrdRes (w w' : World) (G n : Nat) (ga : Option Addr) (gc : Nat) (e : Ending) : Prop :=
  ((∃ (OB ol oc : Nat) (f : Nat → Nat), e = .returned (.slice (some ⟨OB, 0, none⟩) ol oc) ∧ ol ≤ n ∧ Row w' OB ol (fun i => .int .i64 (f i : Int)) ∧ (∀ i, i < ol → f i < n) ∧ w.heap.size ≤ OB ∧ OB < w'.heap.size) ∨
    (e = .returned (.slice none 0 0) ∧ 0 < n ∧ ∃ E la lc FB NX KN first next kd, GL w' G n E la lc ga gc FB NX KN vnil first next kd ∧ E ≤ 100000 ∧ w.heap.size ≤ FB ∧ w.heap.size ≤ NX ∧ w.heap.size ≤ KN)) ∧ Keep (fun b => b = G) w w'

set_option maxHeartbeats 8000000 in
set_option maxRecDepth 100000 in
theorem order_any (G n E : Nat) (la : Option Addr) (lc : Nat) (aa : Option Addr) (acp : Nat) (ka : Option Addr) (kc : Nat) (ga : Option Addr) (gc : Nat) (last src dst kd : Nat → Int) (w : World) (h : GB w G n E la lc aa acp ka kc ga gc last src dst kd) (hn : n ≤ 5) (hE : E ≤ 100000) :
    Calls Ybaz.prog 67 #[.pointer (some ⟨G, 0, none⟩)] w fun e w' => OrdRes w w' G n ga gc e := by
  have n1 : (n : Int) ≤ 5 := by omega
  have c1 : w.cell? ⟨G, 1, none⟩ = some (.slice la n lc) := cell_of w G 1 _ _ h.blk
  have HN := fun _ : Unit => nodes_any G n lc la w c1
  have r62 := fun W => run_mkv 62 3 (.int .i64 0) 1 8 Ybaz.underlying62 inf3 (by omega) W n (by omega)
  have hG := heap_lt h.blk
  have hb0 : (w.alloc (.cells (mc (.int .i64 0) 1 n) 3)).heap[w.heap.size]? = some (.cells (mc (.int .i64 0) 1 n) 3) := heap_alloc_new _ _
  have k0 := Keep.alloc (fun _ => False) w (.cells (mc (.int .i64 0) 1 n) 3)
  have c1' : (w.alloc (.cells (mc (.int .i64 0) 1 n) 3)).cell? ⟨G, 1, none⟩ = some (.slice la n lc) := (k0.cell ⟨G, 1, none⟩ hG id).trans c1
  have HN1 := fun _ : Unit => nodes_any G n lc la _ c1'
  have hgab : ∀ b, ga = some ⟨b, 0, none⟩ → b < w.heap.size := fun b hb => h.vg.lt hb
  have HO : Hid (O1 (w.alloc (.cells (mc (.int .i64 0) 1 n) 3)) (w.alloc (.cells (mc (.int .i64 0) 1 n) 3)) G n w.heap.size ga gc 0 (fun _ => 0)) := by
    refine ⟨Row.made1 _ _ _ _ 3 rfl hb0, Keep.refl _ _, .inl ⟨rfl, ⟨E, la, lc, aa, acp, ka, kc, last, src, dst, kd, ?_, hE⟩, fun _ _ => rfl⟩⟩
    exact ⟨k0.at h.blk id, h.vl.keep k0 (fun _ _ q => q), h.va.keep k0 (fun _ _ q => q), h.vk.keep k0 (fun _ _ q => q), h.vg.keep k0 (fun _ _ q => q), h.ne, h.hl, h.hs⟩
  have HK0 : Hid _ := k0
  have hPR1 : w.heap.size < (w.alloc (.cells (mc (.int .i64 0) 1 n) 3)).heap.size := heap_lt hb0
  have HGA : Hid _ := hgab
  clear h hb0 k0 c1 c1' hgab
  go_enter Ybaz.func67, Ybaz.ntmps67
  go_upto_region 2 with (first
    | (go_at_call 127; refine (HN ()).mono ?_; clear HN; rintro e w2 ⟨rfl, rfl⟩))
  generalize hPR : w.heap.size = PR at *
  generalize w.alloc (.cells (mc (.int .i64 0) 1 n) 3) = w1 at *
  go_wp2_with (first
    | (go_at_call 127; refine (HN1 ()).mono ?_; clear HN1; rintro e w2 ⟨rfl, rfl⟩))
  clear r62
  go_loopg [25] n (fun gk s wr => ∃ (k : Nat) (p : Nat → Nat), k ≤ n ∧ s = .int .i64 (k : Int) ∧ gk = n - k ∧ Hid (O1 w1 wr G n PR ga gc k p))
  case atStart => exact ⟨0, _, Nat.zero_le _, rfl, rfl, HO⟩
  case round =>
    focus
      clear HO
      obtain ⟨k, p, hk, rfl, rfl, HO⟩ := hrel
      have hPRw : PR < wr.heap.size := Nat.lt_of_lt_of_le hPR1 HO.out.2.1.size
      by_cases hlt : k < n
      · 
        have k1 : (k : Int) < (n : Int) := by omega
        have HU := fun _ : Unit => out_st w1 G n PR ga gc k p wr HO.out hn hlt hPRw
        go_upto_region 6 with (first
          | (go_at_call 128; refine (HU ()).mono ?_; clear HU; rintro e w3 ⟨E3, la3, lc3, FB, NX, KN, first, next, kd3, ⟨a1, cc1, a2, cc2, rfl, hab⟩, hgl, hE3, hf, hx, hkn, hpv, hk3⟩))
        have HAB : Hid _ := hab
        have HGL : Hid _ := hgl
        have HPV : Hid _ := hpv
        have HR3 : Hid _ := HO.out.1.keep (hk3.block PR hPRw (by omega))
        have HK3 : Hid (Keep (fun b => b = G ∨ b = PR) w1 w3) := HO.out.2.1.trans hk3 (fun _ q => .inl (.inl q))
        have hPR3 : PR < w3.heap.size := Nat.lt_of_lt_of_le hPRw hk3.size
        clear hab hgl hpv hk3 HO
        obtain ⟨A, HA⟩ : ∃ A, Hid (A = first k) := ⟨_, rfl⟩
        obtain ⟨B, HB⟩ : ∃ B, Hid (B = first (k + 1)) := ⟨_, rfl⟩
        rw [← HA.out, ← HB.out] at HAB ⊢
        have hAB : A ≤ B := by rw [HA.out, HB.out]; exact HGL.out.mono k hlt
        have hBE : B ≤ E3 := by rw [HB.out]; exact HGL.out.top (k + 1) (by omega)
        go_wp2
        go_loopg [36] (B - A) (fun gk s wr => ∃ j : Nat, j ≤ B - A ∧ s = .int .i64 (j : Int) ∧ gk = B - A - j ∧ Hid (Row wr PR n (fun v => .int .i64 ((p v + cr next v A j : Nat) : Int))) ∧ Hid (Keep (fun b => b = PR) w3 wr))
        case atStart => exact ⟨0, Nat.zero_le _, rfl, rfl, HR3.out.congr (fun i _ => by simp [cr]), Keep.refl _ _⟩
        case round =>
          as_aux_lemma =>
            clear HR3
            obtain ⟨j, hj, rfl, rfl, HR, HK⟩ := hrel
            by_cases hjl : j < B - A
            · obtain ⟨rfl, rfl⟩ := HAB.out (by omega)
              have hjE : A + j < E3 := by omega
              obtain ⟨v, hv, hvn⟩ : ∃ v : Nat, next (A + j) = (v : Int) ∧ v < n := ⟨(next (A + j)).toNat, by have := HGL.out.hn _ hjE; omega, by have := HGL.out.hn _ hjE; omega⟩
              have HV : Hid _ := hv
              clear hv
              have hNX := HGL.out.lt.2.1
              have en : wr.cell? ⟨NX, A + j, none⟩ = some (.int .i32 (v : Int)) := by rw [← HV.out]; exact (HK.out.cell ⟨NX, A + j, none⟩ hNX (by show ¬ NX = PR; omega)).trans (HGL.out.rn.cell _ hjE)
              obtain ⟨pv, HPv⟩ : ∃ pv, Hid (pv = p v + cr next v A j) := ⟨_, rfl⟩
              have hpb : pv ≤ 1000000 := by
                have h1 := HPV.out v hvn
                have h2 := sm_bound (first := first) (next := next) (T := fun _ => false) v E3 k (fun i hi => HGL.out.top i (by omega))
                have h3 := cr_le next v j A
                have h4 : k * E3 ≤ 5 * 100000 := Nat.mul_le_mul (by omega) hE3
                have := HPv.out
                omega
              have ep : wr.cell? ⟨PR, v, none⟩ = some (.int .i64 (pv : Int)) := by rw [HPv.out]; exact HR.out.cell v hvn
              have fp := HR.out.free v
              have j1 : (j : Int) < ((B - A : Nat) : Int) := by omega
              have j2 : (j : Int).toNat = j := by omega
              have v1 : (v : Int) < (n : Int) := by omega
              have v2 : (v : Int).toNat = v := by omega
              have pw : IntKind.i64.wrap ((pv : Int) + 1) = (pv : Int) + 1 := by rw [IntKind.wrap_i64]; omega
              have HR2 : Hid (Row (wr.setCell ⟨PR, v, none⟩ (.int .i64 ((pv : Int) + 1))) PR n (fun v => .int .i64 ((p v + cr next v A (j + 1) : Nat) : Int))) := (HR.out.set v (.int .i64 ((pv : Int) + 1)) hvn).congr (fun i _ => by
                rw [cr_snoc]
                by_cases e : i = v
                · subst e; rw [if_pos rfl, if_pos HV.out]; have := HPv.out; congr 1; omega
                · rw [if_neg e, if_neg (by have := HV.out; omega)]; rfl)
              have HK2 : Hid (Keep (fun b => b = PR) w3 (wr.setCell ⟨PR, v, none⟩ (.int .i64 ((pv : Int) + 1)))) := HK.out.trans (Keep.setCell wr ⟨PR, v, none⟩ _) (fun _ q => .inl q)
              clear HR HK
              go_wp2
              clear en ep fp
              generalize wr.setCell ⟨PR, v, none⟩ (.int .i64 ((pv : Int) + 1)) = w5 at *
              go_roundg (B - A - (j + 1))
              case measure => omega
              case rel => exact ⟨j + 1, by omega, by go_num, rfl, HR2, HK2⟩
            · have e : j = B - A := by omega
              subst e
              go_wp2
              go_roundg (n - (k + 1))
              case measure => omega
              case rel =>
                refine ⟨k + 1, _, by omega, by go_num, rfl, HR.out, HK3.out.trans HK.out (fun _ q => .inl (.inr q)), .inr ⟨by omega, E3, la3, lc3, FB, NX, KN, first, next, kd3, HGL.out.keep HK.out (by omega) (fun b hb q => by have := HGA.out b hb; omega) (by omega) (by omega) (by omega), hE3, hf, hx, hkn, fun v hv => ?_⟩⟩
                rw [HPV.out v hv, HA.out, HB.out]; simp [sm]
        
      · have e : n = k := by omega
        subst e
        clear hlt hk
        obtain ⟨w3, rfl⟩ : ∃ x, x = wr := ⟨wr, rfl⟩
        obtain ⟨E2, la2, lc2, FB, NX, KN, first, next, kd2, HGL, hPV⟩ : ∃ E2 la2 lc2 FB NX KN first next kd2, Hid (0 < n → GL w3 G n E2 la2 lc2 ga gc FB NX KN vnil first next kd2 ∧ E2 ≤ 100000 ∧ PR < FB ∧ PR < NX ∧ PR < KN) ∧ ∀ v, v < n → p v = sm first next (fun _ => false) v n := by
          obtain ⟨_, _, ⟨rfl, _, _⟩ | ⟨h0, E2, la2, lc2, FB, NX, KN, first, next, kd2, q1, q2, q3, q4, q5, q6⟩⟩ := HO.out
          · exact ⟨0, none, 0, 0, 0, 0, fun _ => 0, fun _ => 0, fun _ => 0, fun h => absurd h (Nat.lt_irrefl 0), fun v hv => by omega⟩
          · exact ⟨E2, la2, lc2, FB, NX, KN, first, next, kd2, fun _ => ⟨q1, q2, q3, q4, q5⟩, q6⟩
        have HC0 : Hid (w3.cell? ⟨G, 0, none⟩ = some (.int .i64 (n : Int))) := by
          obtain ⟨_, _, ⟨_, ⟨_, _, _, _, _, _, _, _, _, _, _, q, _⟩, _⟩ | ⟨_, _, _, _, _, _, _, _, _, _, q, _⟩⟩ := HO.out
          · exact cell_of w3 G 0 _ _ q.blk
          · exact cell_of w3 G 0 _ _ q.blk
        have HPV : Hid _ := hPV
        have HR : Hid _ := HO.out.1
        have HK : Hid _ := HO.out.2.1
        clear HO hPV
        obtain ⟨S0, HS0⟩ : ∃ S0, Hid (w3.heap.size = S0) := ⟨_, rfl⟩
        have hPRS : PR < S0 := by have := HS0.out; omega
        have hGS : G < S0 := by have := HS0.out; have := HK.out.size; have := HK0.out.size; omega
        have HOB : Hid (0 < n → ∀ b, gBlk G ga FB NX KN n vnil b → b < S0 ∧ b ≠ PR) := by
          intro h0
          obtain ⟨q1, _, q3, q4, q5⟩ := HGL.out h0
          obtain ⟨l1, l2, l3⟩ := q1.lt
          have := HS0.out
          rintro b (q | q | q | q | q | q)
          · omega
          · have := HGA.out b q; omega
          · omega
          · omega
          · omega
          · unfold vnil at q; injection q with q; cases q
        have hb1 : (w3.alloc (.cells #[.slice none 0 0] 227)).heap[S0]? = some (.cells #[.slice none 0 0] 227) := by rw [← HS0.out]; exact heap_alloc_new _ _
        have kb := Keep.alloc (fun _ => False) w3 (.cells #[.slice none 0 0] 227)
        have HH1 : Hid (HP (w3.alloc (.cells #[.slice none 0 0] 227)) S0 none 0 0 (fun _ => 0)) := ⟨hb1, Vec.nil _ _ _ _⟩
        have HR1 : Hid (Row (w3.alloc (.cells #[.slice none 0 0] 227)) PR n (fun i => .int .i64 (p i : Int))) := HR.out.keep (kb.block PR hPRw id)
        have HK1 : Hid (Keep (fun b => b = PR ∨ S0 ≤ b) w3 (w3.alloc (.cells #[.slice none 0 0] 227))) := kb.wide (fun _ q => q.elim)
        clear hb1 kb HR
        go_upto_region 14 with fail
        rw [HS0.out]
        generalize w3.alloc (.cells #[.slice none 0 0] 227) = w4 at *
        go_wp2
        go_loopg [10, 52] n (fun gk s10 s52 wr => ∃ (u k c : Nat) (a : Option Addr) (f : Nat → Nat), u ≤ n ∧ s10 = .slice none 0 0 ∧ s52 = .int .i64 (u : Int) ∧ gk = n - u ∧ Hid (HP wr S0 a k c f) ∧ Hid (∀ b, a = some ⟨b, 0, none⟩ → S0 < b) ∧ Hid (OS n first next p (fun _ => false) (fun x => x < u ∧ p x = 0) 0 k f 0 0) ∧ Hid (Row wr PR n (fun i => .int .i64 (p i : Int))) ∧ Hid (Keep (fun b => b = PR ∨ S0 ≤ b) w3 wr))
        case atStart =>
          refine ⟨0, 0, 0, none, fun _ => 0, Nat.zero_le _, rfl, rfl, rfl, HH1, nofun, ?_, HR1, HK1⟩
          refine ⟨fun v hv => by rw [HPV.out v hv]; simp [cr], ?_, fun x _ h => by omega, fun i hi => by omega, fun i j hi => by omega, fun x _ h => by cases h⟩
          have : ∀ m, @num (fun x => x < 0 ∧ p x = 0) (fun x => Classical.propDecidable _) m = 0 := fun m => by
            induction m with
            | zero => rfl
            | succ m ih => unfold num; rw [ih]; simp
          exact this n
        case round =>
          focus
            clear HH1 HR1 HK1
            obtain ⟨u, k, c, a, f, hu, rfl, rfl, rfl, HH, HAA, HOS, HR, HKx⟩ := hrel
            have hkn : k ≤ n := by have := HOS.out.nm; have := @num_le (fun x => x < u ∧ p x = 0) (fun x => Classical.propDecidable _) n; omega
            by_cases hun : u < n
            · have u1 : (u : Int) < (n : Int) := by omega
              have u2 : (u : Int).toNat = u := by omega
              have ep := HR.out.cell u hun
              have c0 : wr.cell? ⟨G, 0, none⟩ = some (.int .i64 (n : Int)) := by
                obtain ⟨q1, _⟩ := HGL.out (by omega)
                have hob := HOB.out (by omega) G (.inl rfl)
                exact cell_of wr G 0 _ _ (HKx.out.at q1.blk (by omega))
              by_cases hz : p u = 0
              · rw [hz] at ep
                have ch : wr.cell? ⟨S0, 0, none⟩ = some (.slice a k c) := cell_of wr S0 0 _ _ HH.out.blk
                have hna : ¬ a = some ⟨S0, 0, none⟩ := HH.out.vec.off HH.out.blk (by decide)
                obtain ⟨g4, cap4, w5, hr4, hv4, hk4, hg4, hl4⟩ := run_push (wr.alloc (.cells #[.int .i64 (u : Int)] 3)) 62 3 62 1 8 _ Ybaz.underlying62 inf3 rfl Nat.one_pos (by decide) a k c _ (HH.out.vec.alloc _) ⟨wr.heap.size, 0, none⟩ 1 (fun _ => .int .i64 (u : Int)) (new1 wr _ 3) (fun _ _ => rfl) (by omega)
                have b8 := hk4.at (heap_grow _ HH.out.blk) hna
                have c8 : w5.cell? ⟨S0, 0, none⟩ = some (.slice a k c) := cell_of w5 S0 0 _ _ b8
                have z8 := free_of w5 S0 0 _ _ b8
                obtain ⟨t1, t2, t3, _, t5⟩ := field_push (i := 0) HH.out.blk hv4 hk4 hg4 hna
                have hwS : S0 ≤ wr.heap.size := by have := HKx.out.size; have := HS0.out; omega
                have HH2 : Hid (HP (w5.setCell ⟨S0, 0, none⟩ (.slice (some ⟨g4, 0, none⟩) (k + 1) cap4)) S0 (some ⟨g4, 0, none⟩) (k + 1) cap4 (fun i => if i = k then u else f i)) := ⟨t1, t2.congr Nat.one_pos (fun i _ _ _ => by unfold push; by_cases e : i = k <;> simp only [e, if_true, if_false])⟩
                have HA2 : Hid (∀ b, some (⟨g4, 0, none⟩ : Addr) = some ⟨b, 0, none⟩ → S0 < b) := fun b hb => by
                  injection hb with hb; injection hb with hb
                  have hS := heap_lt HH.out.blk
                  rcases t5 with q | q
                  · have := HAA.out g4 q; omega
                  · omega
                have HK2 : Hid (Keep (fun b => b = PR ∨ S0 ≤ b) w3 (w5.setCell ⟨S0, 0, none⟩ (.slice (some ⟨g4, 0, none⟩) (k + 1) cap4))) := HKx.out.trans t3 (fun b q => .inl (by
                  rcases q with q | q
                  · exact .inr (by omega)
                  · exact .inr (by have := HAA.out b q; omega)))
                have HR2 : Hid (Row (w5.setCell ⟨S0, 0, none⟩ (.slice (some ⟨g4, 0, none⟩) (k + 1) cap4)) PR n (fun i => .int .i64 (p i : Int))) := HR.out.keep (t3.block PR (by omega) (by
                  rintro (q | q)
                  · omega
                  · have := HAA.out PR q; omega))
                have HOS2 : Hid (OS n first next p (fun _ => false) (fun x => x < u + 1 ∧ p x = 0) 0 (k + 1) (fun i => if i = k then u else f i) 0 0) := by
                  have t := HOS.out.push u hun (by omega) hz
                  have e : (fun x => x = u ∨ (x < u ∧ p x = 0)) = (fun x => x < u + 1 ∧ p x = 0) := by
                    funext x
                    apply propext
                    by_cases q : x = u
                    · subst q; simp [hz]
                    · simp [q]; omega
                  rw [← e]; exact t
                clear t1 t2 t3 t5 b8 hv4 hk4 hg4 hl4 HH HAA HOS HR HKx
                go_wp2
                clear ep c0 ch hr4 c8 z8
                generalize w5.setCell ⟨S0, 0, none⟩ (.slice (some ⟨g4, 0, none⟩) (k + 1) cap4) = w6 at *
                go_roundg (n - (u + 1))
                case measure => omega
                case rel => exact ⟨u + 1, _, _, _, _, by omega, rfl, by go_num, rfl, HH2, HA2, HOS2, HR2, HK2⟩
              · have q1 : (0 : Int) < (p u : Int) := by omega
                have HOS2 : Hid (OS n first next p (fun _ => false) (fun x => x < u + 1 ∧ p x = 0) 0 k f 0 0) := by
                  have e : (fun x => x < u ∧ p x = 0) = (fun x => x < u + 1 ∧ p x = 0) := by
                    funext x
                    apply propext
                    by_cases q : x = u
                    · subst q; simp [hz]
                    · constructor
                      · rintro ⟨q1, q2⟩; exact ⟨by omega, q2⟩
                      · rintro ⟨q1, q2⟩; exact ⟨by omega, q2⟩
                  rw [← e]; exact HOS.out
                go_wp2
                go_roundg (n - (u + 1))
                case measure => omega
                case rel => exact ⟨u + 1, _, _, _, _, by omega, rfl, by go_num, rfl, HH, HAA, HOS2, HR, HKx⟩
            · have e : n = u := by omega
              subst e
              clear hun hu
              have HI := fun _ : Unit => init_any S0 a k c f wr HH.out (by omega)
              go_upto_region 23 with (first
                | (go_at_call 129; refine (HI ()).mono ?_; clear HI; rintro e w5 ⟨rfl, ⟨g5, hh5, hs5⟩, hk5⟩))
              have HH5 : Hid _ := hh5
              have HOS5 : Hid _ := HOS.out.shuf hs5
              have kOw : ∀ b, hOwn S0 a b → S0 ≤ b := by
                rintro b (q | q)
                · omega
                · have := HAA.out b q; omega
              have HK5 : Hid (Keep (fun b => b = PR ∨ S0 ≤ b) w3 w5) := HKx.out.trans hk5 (fun b q => .inl (.inr (kOw b q)))
              have hPRr : PR < wr.heap.size := by have := HKx.out.size; omega
              have HR5 : Hid _ := HR.out.keep (hk5.block PR hPRr (fun q => by have := kOw PR q; omega))
              clear hh5 hs5 hk5 kOw HH HOS HKx HR hPRr
              obtain ⟨D, HD⟩ : ∃ D : Nat → Prop, Hid (D = fun x => x < n ∧ p x = 0) := ⟨_, rfl⟩
              rw [← HD.out] at HOS5
              clear HD
              have c0 : w5.cell? ⟨G, 0, none⟩ = some (.int .i64 (n : Int)) := (HK5.out.cell ⟨G, 0, none⟩ (by have := HS0.out; show G < w3.heap.size; omega) (by show ¬ (G = PR ∨ S0 ≤ G); omega)).trans HC0.out
              have r62 := fun W => run_mk0o 62 3 (.int .i64 0) 8 Ybaz.underlying62 inf3 (by omega) W n (by omega)
              have kb := Keep.alloc (fun _ => False) w5 (.cells (mc (.int .i64 0) 1 n) 3)
              have hS5 := heap_lt HH5.out.blk
              have HQ6 : Hid (OQ n first next w3 (w5.alloc (.cells (mc (.int .i64 0) 1 n) 3)) S0 PR p (fun _ => false) D 0 k g5 0 0 a c w5.heap.size n (fun _ => 0)) :=
                ⟨HOS5.out, HH5.out.keep kb (fun _ _ q => q), HAA.out, HR5.out.keep (kb.block PR (by omega) id), Vec.mk0o w5 3 (.int .i64 0) n rfl (by omega) _, fun i hi => by omega, ⟨hS5, fun q => by have := HH5.out.vec.lt q; omega⟩, HK5.out.trans kb (fun _ q => q.elim), hPRS, HS0.out.symm⟩
              clear HOS5 HH5 HAA HR5 kb HK5
              go_wp2
              clear c0 r62
              generalize w5.alloc (.cells (mc (.int .i64 0) 1 n) 3) = w6 at *
              generalize w5.heap.size = OB at *
              go_loopg [10, 13] n (fun gk s10 s13 wr => ∃ (ol oc k c OB : Nat) (a : Option Addr) (f o p : Nat → Nat) (T : Nat → Bool) (D : Nat → Prop), s10 = .slice none 0 0 ∧ s13 = .slice (some ⟨OB, 0, none⟩) ol oc ∧ gk = n - ol ∧ Hid (∃ ea, OQ n first next w3 wr S0 PR p T D ol k f ea 0 a c OB oc o))
              case atStart => exact ⟨0, n, _, _, _, _, _, _, _, _, _, rfl, rfl, rfl, 0, HQ6.out⟩
              case round =>
                focus
                  clear HQ6 hS5
                  obtain ⟨ol, oc, k, c, OB, a, f, o, p, T, D, rfl, rfl, rfl, HQ0⟩ := hrel
                  obtain ⟨ea, hq⟩ := HQ0.out
                  have HQ : Hid _ := hq
                  clear hq HQ0
                  have hbd := HQ.out.bound
                  have HL := fun _ : Unit => hlen_any S0 a k c f wr HQ.out.hp
                  cases k with
                  | zero =>
                    have c0 : wr.cell? ⟨G, 0, none⟩ = some (.int .i64 (n : Int)) := (HQ.out.kp.cell ⟨G, 0, none⟩ (by have := HS0.out; show G < w3.heap.size; omega) (by show ¬ (G = PR ∨ S0 ≤ G); omega)).trans HC0.out
                    have HKw : Hid (Keep (fun b => b = G) w wr) := ((HK0.out.wide (fun _ q => q.elim)).trans HK.out (fun b q => by
                      rcases q with q | q
                      · exact .inl q
                      · exact .inr (by omega))).trans HQ.out.kp (fun b q => .inr (by have := HS0.out; omega))
                    by_cases hol : ol < n
                    · have q1 : (ol : Int) < (n : Int) := by omega
                      have hGLr : Hid (∃ E la lc FB NX KN first next kd, GL wr G n E la lc ga gc FB NX KN vnil first next kd ∧ E ≤ 100000 ∧ w.heap.size ≤ FB ∧ w.heap.size ≤ NX ∧ w.heap.size ≤ KN) := by
                        obtain ⟨q1, q2, q3, q4, q5⟩ := HGL.out (by omega)
                        exact ⟨E2, la2, lc2, FB, NX, KN, first, next, kd2, q1.keepB HQ.out.kp (fun b hb q => by have := HOB.out (by omega) b hb; omega), q2, by omega, by omega, by omega⟩
                      go_wp2_with (first
                        | (go_at_call 130; refine (HL ()).mono ?_; clear HL; rintro e w2 ⟨rfl, rfl⟩))
                      go_ret
                      exact ⟨.inr ⟨rfl, by omega, hGLr.out⟩, HKw.out⟩
                    · have q1 : ¬ (ol : Int) < (n : Int) := by omega
                      have hRr : Hid (Row wr OB ol (fun i => .int .i64 (o i : Int))) := by
                        by_cases h0 : 0 < ol
                        · obtain ⟨g, hg, _, hr⟩ := HQ.out.ov.row h0
                          injection hg with hg; injection hg with hg
                          subst hg
                          exact hr
                        · obtain ⟨cur, hcur⟩ := HQ.out.ov.block_ty rfl
                          exact ⟨fun i hi => by omega, fun i => free_of wr OB i _ _ hcur⟩
                      go_wp2_with (first
                        | (go_at_call 130; refine (HL ()).mono ?_; clear HL; rintro e w2 ⟨rfl, rfl⟩))
                      go_ret
                      exact ⟨.inl ⟨OB, ol, oc, o, rfl, by omega, hRr.out, HQ.out.oo, by have := HQ.out.ho; omega, HQ.out.size.2⟩, HKw.out⟩
                  | succ k =>
                    have hta := fun (u : Int) W => run_assert_int u W
                    have k1 : (0 : Int) < (k : Int) + 1 := by omega
                    have HPO := fun _ : Unit => pop_any S0 a k c f wr HQ.out.hp (by omega)
                    go_upto_region 30 with (first
                      | (go_at_call 130; refine (HL ()).mono ?_; clear HL; rintro e w2 ⟨rfl, rfl⟩)
                      | (go_at_call 131; refine (HPO ()).mono ?_; clear HPO; rintro e w5 ⟨⟨g5, rfl, hh5, hs5⟩, hk5⟩))
                    have hov : Vec w5 3 1 (some ⟨OB, 0, none⟩) ol oc (fun i _ => .int .i64 (o i : Int)) := HQ.out.ov.keep hk5 (fun b hb q => by
                      injection hb with hb; injection hb with hb
                      have := HQ.out.ho
                      rcases q with q | q
                      · omega
                      · rw [← hb] at q; exact this.2 q)
                    have hgn : g5 k < n := ((HQ.out.os.shuf hs5).hp k (by omega)).1
                    obtain ⟨g4, cap4, w6, hr4, hv4, hk4, hg4, _⟩ := run_push (w5.alloc (.cells #[.int .i64 (g5 k : Int)] 3)) 62 3 62 1 8 _ Ybaz.underlying62 inf3 rfl Nat.one_pos (by decide) (some ⟨OB, 0, none⟩) ol oc _ (hov.alloc _) ⟨w5.heap.size, 0, none⟩ 1 (fun _ => .int .i64 (g5 k : Int)) (new1 w5 _ 3) (fun _ _ => rfl) (by omega)
                    have HQ6 : Hid _ := HQ.out.take hh5 hs5 hk5 _ hv4 hk4 hg4
                    clear hov hh5 hs5 hk5 hv4 hk4 hg4 HQ
                    obtain ⟨u, HU⟩ : ∃ u, Hid (u = g5 k) := ⟨_, rfl⟩
                    rw [← HU.out] at HQ6 hr4 hgn ⊢
                    obtain ⟨hg0, hE2, hfb, hnx, hkn⟩ := HGL.out (by omega)
                    have gl6 := hg0.keepB HQ6.out.kp (fun b hb q => by have := HOB.out (by omega) b hb; omega)
                    have HOU := fun _ : Unit => out_any G n E2 la2 lc2 ga gc FB NX KN vnil first next kd2 u w6 gl6 hgn hn hE2
                    have HG6 : Hid _ := gl6
                    clear gl6 hg0
                    go_upto_region 32 with (first
                      | (go_at_call 128; refine (HOU ()).mono ?_; clear HOU; rintro e w7 ⟨⟨a1, cc1, a2, cc2, rfl, hab⟩, nq, rfl⟩))
                    have kd7 : Keep (fun _ => False) w6 (w6.drewN nq) := (Keep.refl _ _).drewN _
                    have HQ7 : Hid _ := HQ6.out.keepF kd7
                    have HG7 : Hid _ := HG6.out.keep kd7 id (fun _ _ q => q) id id id
                    have HAB : Hid _ := hab
                    clear HQ6 HG6 hab kd7 hr4
                    generalize w6.drewN nq = w7 at *
                    obtain ⟨A, HA⟩ : ∃ A, Hid (A = first u) := ⟨_, rfl⟩
                    obtain ⟨B, HB⟩ : ∃ B, Hid (B = first (u + 1)) := ⟨_, rfl⟩
                    rw [← HA.out, ← HB.out] at HAB HQ7 ⊢
                    have hAB : A ≤ B := by rw [HA.out, HB.out]; exact HG7.out.mono u hgn
                    have hBE : B ≤ E2 := by rw [HB.out]; exact HG7.out.top (u + 1) (by omega)
                    go_wp2
                    go_loopg [10, 127] (B - A) (fun gk s10 s127 wr => ∃ (j k c : Nat) (a : Option Addr) (f p : Nat → Nat) (D : Nat → Prop), j ≤ B - A ∧ s10 = .slice none 0 0 ∧ s127 = .int .i64 (j : Int) ∧ gk = B - A - j ∧ Hid (OQ n first next w3 wr S0 PR p (fun x => if x = u then true else T x) D (ol + 1) k f (A + j) (B - A - j) a c g4 cap4 (fun i => if i = ol then u else o i)))
                    case atStart => exact ⟨0, _, _, _, _, _, _, Nat.zero_le _, rfl, rfl, rfl, HQ7⟩
                    case round =>
                      focus
                        clear HQ7
                        obtain ⟨j, k, c, a, f, p, D, hj, rfl, rfl, rfl, HQ⟩ := hrel
                        by_cases hjl : j < B - A
                        · obtain ⟨rfl, rfl⟩ := HAB.out (by omega)
                          have hjE : A + j < E2 := by omega
                          obtain ⟨v, hv, hvn⟩ : ∃ v : Nat, next (A + j) = (v : Int) ∧ v < n := ⟨(next (A + j)).toNat, by have := HG7.out.hn _ hjE; omega, by have := HG7.out.hn _ hjE; omega⟩
                          have HV : Hid _ := hv
                          clear hv
                          obtain ⟨hg0, _⟩ := HGL.out (by omega)
                          have gl := hg0.keepB HQ.out.kp (fun b hb q => by have := HOB.out (by omega) b hb; omega)
                          have en : wr.cell? ⟨NX, A + j, none⟩ = some (.int .i32 (v : Int)) := by rw [← HV.out]; exact gl.rn.cell _ hjE
                          obtain ⟨pv, HPv⟩ : ∃ pv, Hid (pv = p v) := ⟨_, rfl⟩
                          have ep : wr.cell? ⟨PR, v, none⟩ = some (.int .i64 (pv : Int)) := by rw [HPv.out]; exact HQ.out.rw.cell v hvn
                          have fp := HQ.out.rw.free v
                          have hmm : B - A - j = (B - A - (j + 1)) + 1 := by omega
                          rw [hmm] at HQ
                          obtain ⟨hp1, hdv, hq2⟩ := HQ.out.edge v hvn HV.out
                          rw [← HPv.out] at hp1 hq2
                          have HQ2 : Hid _ := hq2
                          have HD2 : Hid _ := hdv
                          have hpb : pv ≤ 1000000 := by
                            have h1 := HQ.out.os.pr v hvn
                            have h2 := sm_bound (first := first) (next := next) (T := fun x => if x = u then true else T x) v E2 n (fun i hi => gl.top i hi)
                            have h3 := cr_le next v (B - A - (j + 1) + 1) (A + j)
                            have h4 : n * E2 ≤ 5 * 100000 := Nat.mul_le_mul hn hE2
                            have := HPv.out
                            omega
                          have j1 : (j : Int) < ((B - A : Nat) : Int) := by omega
                          have j2 : (j : Int).toNat = j := by omega
                          have v1 : (v : Int) < (n : Int) := by omega
                          have v2 : (v : Int).toNat = v := by omega
                          have v3 : IntKind.i64.wrap (v : Int) = (v : Int) := by rw [IntKind.wrap_i64]; omega
                          have pw : IntKind.i64.wrap ((pv : Int) - 1) = (pv : Int) - 1 := by rw [IntKind.wrap_i64]; omega
                          clear gl hg0 hq2 hdv HQ hmm
                          go_upto_region 36 with fail
                          clear en ep fp
                          generalize wr.setCell ⟨PR, v, none⟩ (.int .i64 ((pv : Int) - 1)) = w8 at *
                          have ep : w8.cell? ⟨PR, v, none⟩ = some (.int .i64 ((pv : Int) - 1)) := by
                            have := HQ2.out.rw.cell v hvn
                            simp only [if_true] at this
                            rw [this]; congr 2; omega
                          by_cases hp0 : pv = 1
                          · subst hp0
                            have c0 : w8.cell? ⟨G, 0, none⟩ = some (.int .i64 (n : Int)) := (HQ2.out.kp.cell ⟨G, 0, none⟩ (by have := HS0.out; show G < w3.heap.size; omega) (by show ¬ (G = PR ∨ S0 ≤ G); omega)).trans HC0.out
                            have hbd := HQ2.out.bound
                            have HPU := fun _ : Unit => push_any S0 a k c f v w8 HQ2.out.hp (by omega)
                            go_wp2_with (first
                              | (go_at_call 132; refine (HPU ()).mono ?_; clear HPU; rintro e w9 ⟨rfl, g9, c9, f9, hh9, hs9, hk9, hg9⟩; have HQ9 : Hid _ := HQ2.out.push v hvn HD2.out (by simp) hh9 hs9 hk9 hg9; clear hh9 hs9 hk9 hg9 HQ2))
                            go_roundg (B - A - (j + 1))
                            case measure => omega
                            case rel => exact ⟨j + 1, _, _, _, _, _, _, by omega, rfl, by go_num, rfl, HQ9⟩
                          · obtain ⟨pm, hpm⟩ : ∃ pm : Nat, Hid ((pv : Int) - 1 = (pm : Int) ∧ 0 < pm) := ⟨pv - 1, by omega, by omega⟩
                            rw [hpm.out.1] at ep ⊢
                            have q0 : (0 : Int) < (pm : Int) := by have := hpm.out.2; omega
                            clear hp0 hp1 pw hpb
                            go_wp2
                            go_roundg (B - A - (j + 1))
                            case measure => omega
                            case rel => exact ⟨j + 1, _, _, _, _, _, _, by omega, rfl, by go_num, rfl, HQ2⟩
                        · have e : j = B - A := by omega
                          subst e
                          have hbd := HQ.out.bound
                          go_wp2
                          go_roundg (n - (ol + 1))
                          case measure => omega
                          case rel => exact ⟨ol + 1, _, _, _, _, _, _, _, _, _, _, rfl, rfl, rfl, _, by have := HQ.out; rw [Nat.sub_self] at this; exact this⟩
end Go.Proofs.YbulkdvbsGreat

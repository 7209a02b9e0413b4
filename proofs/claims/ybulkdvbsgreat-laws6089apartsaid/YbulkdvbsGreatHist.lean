/-
  History, walked.
-/
import Derived.Test.YbulkdvbsGreatHisM
namespace Go.Proofs.YbulkdvbsGreat
open Go.RowKit
attribute [local go_sem ↓ 2000] exec_app
set_option maxHeartbeats 8000000 in
set_option maxRecDepth 100000 in
theorem hist_of (hsv : ∀ (OB M oc : Nat) (kd tx ky : Nat → Nat) (KS NK : Nat) (wt : Nat → Prop) (num : Nat → Nat) (sx : Nat → ByteArray) (mb : Nat) (sa : Option Addr) (sc mn EM en : Nat) (w : World), OP w OB M kd tx ky → KSp w KS NK wt num sx mb sa sc mn → KH kd ky wt num M → MQ isU8 w EM en → Calls Ybaz.prog 66 #[.slice (some ⟨OB, 0, none⟩) M oc, .map (some EM), .pointer (some ⟨KS, 0, none⟩)] w fun e w' => RetPP e ∧ Keep (fun _ => False) w w')
    (OB M oc : Nat) (kd tx ky : Nat → Nat) (w : World) (h : OP w OB M kd tx ky) :
    Calls Ybaz.prog 5 #[.slice (some ⟨OB, 0, none⟩) M oc] w fun e w' => RetHist kd tx ky M w w' e := by
  have HO : Hid _ := h
  have HSV : Hid _ := hsv
  clear hsv
  have hM := h.hM
  have hM' : (M : Int) ≤ 2000 := by omega
  have H0 : Hid (H1 kd tx w w.heap.size 0 ((w.alloc (.cells (resC 0 0 0 0 false false false (.slice none 0 0) (.slice none 0 0) (.slice none 0 0)) 41)).alloc (.map #[] 0))) := by
    have k1 := Keep.alloc (fun _ => False) w (.cells (resC 0 0 0 0 false false false (.slice none 0 0) (.slice none 0 0) (.slice none 0 0)) 41)
    have e1 := heap_alloc_new w (.cells (resC 0 0 0 0 false false false (.slice none 0 0) (.slice none 0 0) (.slice none 0 0)) 41)
    have z1 : (w.alloc (.cells (resC 0 0 0 0 false false false (.slice none 0 0) (.slice none 0 0) (.slice none 0 0)) 41)).heap.size = w.heap.size + 1 := World.size_alloc _ _
    generalize w.alloc (.cells (resC 0 0 0 0 false false false (.slice none 0 0) (.slice none 0 0) (.slice none 0 0)) 41) = v1 at *
    have k2 := Keep.alloc (fun _ => False) v1 (.map #[] 0)
    have e2 := MP.made v1 31
    rw [z1] at e2
    exact ⟨k1.trans k2 (fun _ q => q.elim), rfl, k2.at e1 id, e2.congr (fun l => by cases l <;> simp [intM, valF, endV, endF])⟩
  have hmm := fun W => run_makeMap (P := Ybaz.prog) 46 W
  clear h
  go_enter Ybaz.func5, Ybaz.ntmps5
  go_upto_region 3 with fail
  obtain ⟨w1, hw1⟩ : ∃ w1, w1 = ((w.alloc (.cells #[.int .i64 0, .int .i64 0, .int .i64 0, .int .i64 0, .bool false, .bool false, .bool false, .bool false, .bool false, .pointer none, .pointer none, .slice none 0 0, .slice none 0 0, .slice none 0 0] 41)).alloc (.map #[] 0)) := ⟨_, rfl⟩
  have H01 : Hid (H1 kd tx w w.heap.size 0 w1) := by rw [hw1]; exact H0.out
  rw [← hw1]
  obtain ⟨RB, hRB⟩ : ∃ RB, RB = w.heap.size := ⟨_, rfl⟩
  rw [← hRB] at H01 ⊢
  clear hw1 H0 hmm hRB
  go_wp2
  go_loopg [25] M (fun gk s wr => ∃ i : Nat, i ≤ M ∧ s = .int .i64 (i : Int) ∧ gk = M - i ∧ Hid (H1 kd tx w RB i wr))
  case atStart => exact ⟨0, Nat.zero_le _, rfl, rfl, H01⟩
  case round =>
    clear H01
    obtain ⟨i, hi, rfl, rfl, HR⟩ := hrel
    obtain ⟨w2, rfl⟩ : ∃ w2, w2 = wr := ⟨_, rfl⟩
    by_cases hlt : i < M
    · as_aux_lemma =>
      have i1 : (i : Int) < (M : Int) := by omega
      have i2 : (i : Int).toNat = i := by omega
      obtain ⟨e0, e1, e2, e3, e4, e5, e6⟩ := (HO.out.keep HR.out.k id).cell i hlt
      have ht := HO.out.ht i hlt
      have hk4 : kd i = 114 ∨ kd i = 119 ∨ kd i = 99 ∨ kd i = 97 := by have := HO.out.hk i hlt; omega
      have kA := Keep.alloc (fun _ => False) w2 (.cells #[.int .u8 (kd i : Int), .int .u64 (tx i : Int), .string (kstr (ky i)), .string ⟨#[]⟩, .bool false, .int .u64 0, .slice none 0 0] 34)
      have HM : Hid _ := HR.out.quiet kA
      have HB3 : Hid _ := heap_alloc_new w2 (.cells #[.int .u8 (kd i : Int), .int .u64 (tx i : Int), .string (kstr (ky i)), .string ⟨#[]⟩, .bool false, .int .u64 0, .slice none 0 0] 34)
      clear kA HR
      go_upto_region 6 with fail
      clear e0 e1 e2 e3 e4 e5 e6
      generalize (w2.alloc (.cells #[.int .u8 (kd i : Int), .int .u64 (tx i : Int), .string (kstr (ky i)), .string ⟨#[]⟩, .bool false, .int .u64 0, .slice none 0 0] 34)) = w3 at *
      generalize w2.heap.size = bO at *
      have e0 : w3.cell? ⟨bO, 0, none⟩ = some (.int .u8 (kd i : Int)) := cell_of _ _ 0 _ _ HB3.out
      have e1 : w3.cell? ⟨bO, 1, none⟩ = some (.int .u64 (tx i : Int)) := cell_of _ _ 1 _ _ HB3.out
      by_cases hE : kd i = 99 ∨ kd i = 97
      · obtain ⟨w4, hr4, hm4, hk4', _⟩ := HM.out.mp.put keyed31 Ybaz.underlying46 (by unfold maxLen; omega) (tkey (tx i) ht.2) (.int .u8 (kd i : Int))
        rw [intM_put, valF_put, endV_put kd tx i (kd i) (by rw [endF_succ, if_pos hE])] at hm4
        have HF : Hid _ := HM.out.put hk4' hm4
        clear hm4 hk4' HM HB3
        rcases hE with hE | hE
        · rw [hE] at e0
          have hr5 : (Instr.mapUpdate 46 (.map (some (RB + 1))) (.int .u64 (tx i : Int)) (.int .u8 99)).run Ybaz.prog w3 = .ok () w4 := by rw [hE] at hr4; exact hr4
          have HE : Hid _ := hE
          clear hE hk4 hr4
          go_wp2
          go_roundg (M - (i + 1))
          case measure => omega
          case rel => exact ⟨i + 1, by omega, by go_num, rfl, HF⟩
        · rw [hE] at e0
          have hr5 : (Instr.mapUpdate 46 (.map (some (RB + 1))) (.int .u64 (tx i : Int)) (.int .u8 97)).run Ybaz.prog w3 = .ok () w4 := by rw [hE] at hr4; exact hr4
          have HE : Hid _ := hE
          clear hE hk4 hr4
          go_wp2
          go_roundg (M - (i + 1))
          case measure => omega
          case rel => exact ⟨i + 1, by omega, by go_num, rfl, HF⟩
      · have kq1 : ((kd i : Int) == 99) = false := by simp; omega
        have kq2 : ((kd i : Int) == 97) = false := by simp; omega
        have kq3 : ¬ (kd i : Int) = 99 := by omega
        have kq4 : ¬ (kd i : Int) = 97 := by omega
        have hL := HM.out.mp.look_ok keyed31 Ybaz.underlying46 (zero28 _) (tkey (tx i) ht.2)
        rw [intM_int, valF_at] at hL
        cases hen : endF kd tx i (tx i) with
        | none =>
          have e9 : endV kd tx i (tx i) = none := by unfold endV; rw [hen]; rfl
          rw [e9] at hL
          simp only [Option.getD_none, Option.isSome_none] at hL
          obtain ⟨w4, hr4, hm4, hk4', _⟩ := HM.out.mp.put keyed31 Ybaz.underlying46 (by unfold maxLen; omega) (tkey (tx i) ht.2) (.int .u8 ((0 : Nat) : Int))
          rw [intM_put, valF_put, endV_put kd tx i 0 (by rw [endF_succ, if_neg hE, if_pos hen])] at hm4
          have HF : Hid _ := HM.out.put hk4' hm4
          have hr5 : (Instr.mapUpdate 46 (.map (some (RB + 1))) (.int .u64 (tx i : Int)) (.int .u8 0)).run Ybaz.prog w3 = .ok () w4 := hr4
          clear hm4 hk4' HM HB3 hen e9 hr4
          go_wp2
          go_roundg (M - (i + 1))
          case measure => omega
          case rel => exact ⟨i + 1, by omega, by go_num, rfl, HF⟩
        | some v =>
          have e9 : endV kd tx i (tx i) = some (.int .u8 (v : Int)) := by unfold endV; rw [hen]; rfl
          rw [e9] at hL
          simp only [Option.getD_some, Option.isSome_some] at hL
          have HF : Hid (H1 kd tx w RB (i + 1) w3) := ⟨HM.out.k, HM.out.hR, HM.out.res, by
            have e : endV kd tx (i + 1) = endV kd tx i := by unfold endV; rw [endF_succ, if_neg hE, if_neg (by rw [hen]; simp)]
            rw [e]; exact HM.out.mp.mono (by omega)⟩
          clear HM HB3 hen e9
          go_wp2
          go_roundg (M - (i + 1))
          case measure => omega
          case rel => exact ⟨i + 1, by omega, by go_num, rfl, HF⟩
    · obtain rfl : M = i := by omega
      have q1 : ¬ (M : Int) < (M : Int) := by omega
      obtain ⟨w3, L, hrun, hmr, hk3, _, hL⟩ := HR.out.mp.range keyed31 Ybaz.underlying46
      obtain ⟨r, hr⟩ : ∃ r, r = w2.heap.size := ⟨_, rfl⟩
      rw [← hr] at hrun hmr
      have H20 : Hid _ := H2.start HR.out hk3 hr hmr
      clear HR hk3 hr hmr
      go_wp2
      clear hrun
      go_loopg [9] L (fun gk s9 wr => ∃ (ta : Option Addr) (N tc : Nat) (vis : Nat → Bool) (left : Lit → Bool) (f : Nat → Nat), s9 = .slice ta N tc ∧ Hid (H2 kd tx M w RB r vis left gk ta N tc f wr))
      case atStart => exact ⟨none, 0, 0, _, _, _, rfl, H20⟩
      case round =>
        clear H20
        obtain ⟨ta, N, tc, vis, left, f, rfl, HR⟩ := hrel
        obtain ⟨w4, rfl⟩ : ∃ w4, w4 = wr := ⟨_, rfl⟩
        rcases HR.out.mr.next keyed31 0 with ⟨_, hl0, hnx⟩ | ⟨key, v, kl, w5, cnt', hkey, hlk, hmk, hnx, hr5, hc, hk5, hs5, hen⟩
        · obtain ⟨TX, h3⟩ := HR.out.end3 hl0
          have H30 : Hid _ := h3
          have hN5 : N ≤ 5 := by rw [h3.fN]; exact cnt5_le _
          have HC := fun (_ : Unit) => (sort_u64 ta TX N tc (fun j => (f j : Int)) w4 (by omega) (fun q => (H30.out.tb q).1) H30.out.row).mono (fun e w' h => (⟨h.1, h.2⟩ : e = .returned (.tuple #[]) ∧ Hid (∃ σ, Bij N σ ∧ Row w' TX N (fun i => (.int .u64 (f (σ i) : Int))) ∧ Keep (fun k => k = TX) w4 w')))
          clear h3 HR hl0
          go_upto_region 23 with (go_at_call 7; refine (HC ()).mono ?_; clear HC; rintro e w5 ⟨rfl, HS5⟩)
          obtain ⟨σ, hσ, hrow5, hk5⟩ := HS5.out
          have h35 := H30.out.shuf hσ hrow5 hk5
          have hlen := h35.len HO.out.ht
          have c0 : w5.cell? ⟨RB, 0, none⟩ = some (.int .i64 0) := cell_of _ _ 0 _ _ h35.res
          have f0 : w5.frozen? ⟨RB, 0, none⟩ = false := free_of _ _ 0 _ _ h35.res
          have r6 := res_set0 h35.res ((cnt5 fun s => (endF kd tx M s).isSome : Nat) : Int)
          obtain ⟨T, hT⟩ : ∃ T : Nat, T = cnt5 (fun s => (endF kd tx M s).isSome) := ⟨_, rfl⟩
          rw [← hT] at hlen r6
          have c1 : (w5.setCell ⟨RB, 0, none⟩ (.int .i64 (T : Int))).cell? ⟨RB, 1, none⟩ = some (.int .i64 0) := cell_of _ _ 1 _ _ r6
          have f1 : (w5.setCell ⟨RB, 0, none⟩ (.int .i64 (T : Int))).frozen? ⟨RB, 1, none⟩ = false := free_of _ _ 1 _ _ r6
          have r7 := res_set1 r6 (N : Int)
          have H35 : Hid _ := h35
          have HR7 : Hid _ := r7
          have HT : Hid _ := hT
          clear H30 HS5 hσ hrow5 hk5 h35 r6 r7 hT
          have HMM := fun W => run_mapN W (N : Int)
          go_upto_region 25 with fail
          have HZ : Hid (w5.heap.size = ((w5.setCell ⟨RB, 0, none⟩ (.int .i64 (T : Int))).setCell ⟨RB, 1, none⟩ (.int .i64 (N : Int))).heap.size) := by show _ = _; simp [World.setCell]
          have H46 : Hid (H4 kd tx M w RB ta TX N (fun j => f (σ j)) false false (.slice none 0 0) ((w5.setCell ⟨RB, 0, none⟩ (.int .i64 (T : Int))).setCell ⟨RB, 1, none⟩ (.int .i64 (N : Int)))) := by
            have h := H35.out
            have hR := h.hR
            have hn := h.nw
            have k1 := Keep.setCell w5 ⟨RB, 0, none⟩ (.int .i64 (T : Int))
            have k2 := Keep.setCell (w5.setCell ⟨RB, 0, none⟩ (.int .i64 (T : Int))) ⟨RB, 1, none⟩ (.int .i64 (N : Int))
            have kk : Keep (fun b => b = RB) w5 ((w5.setCell ⟨RB, 0, none⟩ (.int .i64 (T : Int))).setCell ⟨RB, 1, none⟩ (.int .i64 (N : Int))) := k1.trans k2 (fun b q => .inl q)
            refine ⟨h.k.trans kk (fun b q => .inr (by have : b = RB := q; omega)), hR, ?_, h.mp.keep kk (by show ¬ RB + 1 = RB; omega), fun h0 => h.row.keep (kk.block TX (h.tb h0).2 (by show ¬ TX = RB; omega)), fun h0 => ⟨(h.tb h0).1, Nat.lt_of_lt_of_le (h.tb h0).2 kk.size⟩, hn⟩
            rw [← HT.out]
            exact HR7.out
          have HFJ : Hid ((∀ j, j < N → (1 ≤ f (σ j) ∧ f (σ j) ≤ 5) ∧ endF kd tx M (f (σ j)) = some 99) ∧ (∀ i j, i < N → j < N → f (σ i) = f (σ j) → i = j) ∧ (∀ t, 1 ≤ t → t ≤ 5 → endF kd tx M t = some 99 → ∃ j, j < N ∧ f (σ j) = t) ∧ N = cnt5 fun s => endF kd tx M s == some 99) := ⟨H35.out.f1, H35.out.inj, H35.out.onto, H35.out.fN⟩
          clear HMM hlen c0 f0 c1 f1 HR7 H35 HT
          generalize ((w5.setCell ⟨RB, 0, none⟩ (.int .i64 (T : Int))).setCell ⟨RB, 1, none⟩ (.int .i64 (N : Int))) = w6 at *
          generalize w5.heap.size = NB at *
          generalize hff : (fun j => f (σ j)) = ff at *
          have HN0 : Hid (Keep (fun b => b = NB) w6 (w6.alloc (.map #[] 0)) ∧ MP (w6.alloc (.map #[] 0)) 31 NB 0 (intM .u64 (nodeF (ndF ff 0)))) := by
            refine ⟨Keep.alloc _ _ _, ?_⟩
            have := MP.made w6 31
            rw [← HZ.out] at this
            exact this.congr (fun l => by cases l <;> simp [intM, nodeF, ndF])
          generalize w6.alloc (.map #[] 0) = w7 at *
          have HFF : Hid (∀ j, j < N → 1 ≤ ff j ∧ ff j ≤ 5) := fun j hj => by rw [← hff]; exact (HFJ.out.1 j hj).1
          have HFQ : Hid _ := hff
          clear hff
          have n5 : (N : Int) ≤ 5 := by omega
          go_wp2
          go_loopg [102] N (fun gk s wr => ∃ j : Nat, j ≤ N ∧ s = .int .i64 (j : Int) ∧ gk = N - j ∧ Hid (Keep (fun b => b = NB) w6 wr ∧ MP wr 31 NB j (intM .u64 (nodeF (ndF ff j)))))
          case atStart => exact ⟨0, Nat.zero_le _, rfl, rfl, HN0⟩
          case round =>
            clear HN0
            obtain ⟨j, hj, rfl, rfl, HR⟩ := hrel
            obtain ⟨w8, rfl⟩ : ∃ w8, w8 = wr := ⟨_, rfl⟩
            by_cases hlt : j < N
            · have j1 : (j : Int) < (N : Int) := by omega
              have j2 : (j : Int).toNat = j := by omega
              have h8 := H46.out.quiet HR.out.1 (fun b q => by have : b = NB := q; have := HZ.out; omega)
              obtain ⟨rfl, hTl⟩ := h8.tb (by omega)
              have ef := (h8.row (by omega)).cell j hlt
              obtain ⟨w9, hr9, hm9, hk9, _⟩ := HR.out.2.put keyed31 Ybaz.underlying49 (by unfold maxLen; omega) (tkey (ff j) (HFF.out j hlt).2) (.int .i64 (j : Int))
              rw [intM_put, nodeF_put] at hm9
              have HF : Hid (Keep (fun b => b = NB) w6 w9 ∧ MP w9 31 NB (j + 1) (intM .u64 (nodeF (ndF ff (j + 1))))) := ⟨HR.out.1.trans hk9 (fun b q => .inl q), hm9⟩
              clear HR h8 hm9 hk9
              go_wp2
              go_roundg (N - (j + 1))
              case measure => omega
              case rel => exact ⟨j + 1, by omega, by go_num, rfl, HF⟩
            · obtain rfl : N = j := by omega
              have q2 : ¬ (N : Int) < (N : Int) := by omega
              have h8 := H46.out.quiet HR.out.1 (fun b q => by have : b = NB := q; have := HZ.out; omega)
              have hop8 := HO.out.keep h8.k id
              have hinj : ∀ i j, i < N → j < N → ff i = ff j → i = j := fun i j hi hj e => HFJ.out.2.1 i j hi hj (by rw [← HFQ.out] at e; exact e)
              have hnd := ndF_some hinj N (Nat.le_refl _)
              have hnm8 : NM w8 NB N N (ndF ff N) := ⟨HR.out.2, fun t u e => ((hnd t u).1 e).1, fun t t' u e e' => by rw [← ((hnd t u).1 e).2, ← ((hnd t' u).1 e').2]⟩
              have H48 : Hid _ := h8
              have HNM8 : Hid _ := hnm8
              have HND : Hid _ := hnd
              have HC := fun (_ : Unit) => (newKS_any OB M oc kd tx ky w8 hop8).mono (fun e w' h => (⟨h.1, h.2⟩ : NewKS w8 w' kd ky M e ∧ Hid (Keep (fun _ => False) w8 w')))
              clear h8 hop8 hnm8 hnd hinj HR
              go_upto_region 31 with (go_at_call 8; refine (HC ()).mono ?_; clear HC; rintro e w9 ⟨⟨KS, NK, num, sx, mb, sa, sc, mn, rfl, hks, hb1, hb2, hb3⟩, HK9⟩)
              have H49 : Hid _ := H48.out.quiet HK9.out (fun _ q => q.elim)
              have HNM9 : Hid _ := HNM8.out.keep HK9.out id
              have HKS9 : Hid _ := hks
              have HKSn : Hid (RB + 2 ≤ KS ∧ RB + 2 ≤ mb ∧ ∀ g, sa = some ⟨g, 0, none⟩ → RB + 2 ≤ g) := by
                have := H48.out.mp.lt
                exact ⟨by omega, by omega, fun g e => by have := hb3 g e; omega⟩
              clear H48 HNM8 hks hb1 hb2 hb3 HK9
              have HLEN : Hid (∀ L, KeysOf (intM .u64 (nodeF (ndF ff N))) L → L.length = N) := fun L hL => by
                have e := keys_count hL ((List.range N).map fun j => Lit.int .u64 (ff j : Int)) (by
                  unfold List.Nodup
                  rw [List.pairwise_map]
                  refine List.Pairwise.imp_of_mem ?_ (List.nodup_range (n := N))
                  intro a b ha hb hab q
                  injection q with _ q
                  exact hab (HFJ.out.2.1 a b (List.mem_range.1 ha) (List.mem_range.1 hb) (by have := HFQ.out; rw [← this] at q; exact Int.ofNat.inj q))) (fun l hl => by
                  obtain ⟨x, rfl, hx⟩ := intM_some hl
                  unfold nodeF at hx
                  by_cases h0 : 0 ≤ x
                  · rw [if_pos h0, Option.isSome_map] at hx
                    obtain ⟨u, hu⟩ := Option.isSome_iff_exists.1 hx
                    have := (HND.out x.toNat u).1 hu
                    exact List.mem_map.2 ⟨u, List.mem_range.2 this.1, by rw [this.2]; congr 1; omega⟩
                  · rw [if_neg h0] at hx; simp at hx)
                rw [e, List.filter_eq_self.2 (fun l hl => by
                  obtain ⟨u, hu, rfl⟩ := List.mem_map.1 hl
                  rw [intM_int, nodeF_at, (HND.out (ff u) u).2 ⟨List.mem_range.1 hu, rfl⟩]
                  rfl), List.length_map, List.length_range]
              have HC := fun (_ : Unit) => (serial_any OB M oc kd tx ky NB N N (ndF ff N) w9 (HO.out.keep H49.out.k id) HNM9.out HLEN.out hN5).mono (fun e w' h => (⟨h.1, h.2⟩ : RetSer tx (fun t => (ndF ff N t).isSome = true) M e ∧ Hid (Keep (fun _ => False) w9 w')))
              have HBF : Hid (∀ w' : World, Keep (fun _ => False) w9 w' → w'.cell? ⟨RB, 4, none⟩ = some (.bool false) ∧ w'.frozen? ⟨RB, 4, none⟩ = false) := fun w' k => ⟨cell_of _ _ 4 _ _ (k.at H49.out.res id), free_of _ _ 4 _ _ (k.at H49.out.res id)⟩
              go_upto_region 32 with (go_at_call 9; refine (HC ()).mono ?_; clear HC; rintro e w10 ⟨⟨se, rfl, hse⟩, HK10⟩; obtain ⟨c4, f4⟩ := HBF.out w10 HK10.out)
              have H5a : Hid (H5 kd tx ky M OB w RB ta TX N ff NB (ndF ff N) KS NK (Wrt kd ky M) num sx mb sa sc mn se false (.slice none 0 0) (w10.setCell ⟨RB, 4, none⟩ (.bool se))) := by
                have h6 := H46.out.mp.lt
                have hz := HZ.out
                have hl := HO.out.lt
                have hR := H46.out.hR
                have h9 : H5 kd tx ky M OB w RB ta TX N ff NB (ndF ff N) KS NK (Wrt kd ky M) num sx mb sa sc mn false false (.slice none 0 0) w9 := ⟨H49.out, HO.out.keep H49.out.k id, HNM9.out, HKS9.out, by omega, ⟨by have := HKSn.out.1; omega, by have := HKSn.out.2.1; omega, fun g e => by have := HKSn.out.2.2 g e; omega⟩, by omega⟩
                exact (h9.quiet HK10.out).set4 se
              have HSE : Hid (se = true ↔ Ser tx (fun t => endF kd tx M t = some 99) M) := by
                refine hse.trans ?_
                have hj : ∀ i, i < M → ((ndF ff N (tx i)).isSome = true ↔ endF kd tx M (tx i) = some 99) := fun i hi => by
                  have ht := HO.out.ht i hi
                  constructor
                  · intro q
                    obtain ⟨u, hu⟩ := Option.isSome_iff_exists.1 q
                    have h2 := (HND.out (tx i) u).1 hu
                    have h3 := (HFJ.out.1 u h2.1).2
                    have e : ff u = f (σ u) := by rw [← HFQ.out]
                    rw [← e, h2.2] at h3
                    exact h3
                  · intro q
                    obtain ⟨u, hu, e⟩ := HFJ.out.2.2.1 (tx i) ht.1 ht.2 q
                    have e2 : ff u = f (σ u) := by rw [← HFQ.out]
                    rw [(HND.out (tx i) u).2 ⟨hu, by rw [e2, e]⟩]
                    rfl
                constructor
                · intro h a b c hab hbc hc e1 e2 ca cb
                  exact h a b c hab hbc hc e1 e2 ((hj a (by omega)).2 ca) ((hj b (by omega)).2 cb)
                · intro h a b c hab hbc hc e1 e2 ca cb
                  exact h a b c hab hbc hc e1 e2 ((hj a (by omega)).1 ca) ((hj b (by omega)).1 cb)
              have HN99 : Hid (N = cnt5 fun s => endF kd tx M s == some 99) := HFJ.out.2.2.2
              clear H49 HNM9 HKS9 HKSn HK10 HBF HFJ HFQ HND HFF hse H46 HZ c4 f4
              generalize (w10.setCell ⟨RB, 4, none⟩ (.bool se)) = w11 at *
              have HC := fun (_ : Unit) => (contains_any OB M oc kd tx ky w11 H5a.out.op).mono (fun e w' h => (⟨h.1, h.2⟩ : e = .returned (.bool false) ∧ Hid (Keep (fun _ => False) w11 w')))
              have HBF : Hid (∀ w' : World, Keep (fun _ => False) w11 w' → w'.cell? ⟨RB, 5, none⟩ = some (.bool false) ∧ w'.frozen? ⟨RB, 5, none⟩ = false) := fun w' k => ⟨cell_of _ _ 5 _ _ (k.at H5a.out.h4.res id), free_of _ _ 5 _ _ (k.at H5a.out.h4.res id)⟩
              go_upto_region 33 with (go_at_call 10; refine (HC ()).mono ?_; clear HC; rintro e w12 ⟨rfl, HK12⟩; obtain ⟨c5, f5⟩ := HBF.out w12 HK12.out)
              have H5b : Hid _ := (H5a.out.quiet HK12.out).set5
              clear H5a HBF c5 f5 HK12
              generalize (w12.setCell ⟨RB, 5, none⟩ (.bool false)) = w13 at *
              have c5 : w13.cell? ⟨RB, 5, none⟩ = some (.bool false) := cell_of _ _ 5 _ _ H5b.out.h4.res
              have HC := fun (_ : Unit) => (rig_any OB M oc kd tx ky KS NK (Wrt kd ky M) num sx mb sa sc mn w13 H5b.out.op H5b.out.ks (KH.of H5b.out.op H5b.out.ks)).mono (fun e w' h => (⟨h.1, h.2⟩ : RetRig kd tx ky M e ∧ Hid (Keep (fun _ => False) w13 w')))
              have HBF : Hid (∀ w' : World, Keep (fun _ => False) w13 w' → w'.cell? ⟨RB, 6, none⟩ = some (.bool false) ∧ w'.frozen? ⟨RB, 6, none⟩ = false) := fun w' k => ⟨cell_of _ _ 6 _ _ (k.at H5b.out.h4.res id), free_of _ _ 6 _ _ (k.at H5b.out.h4.res id)⟩
              go_upto_region 40 with (go_at_call 14; refine (HC ()).mono ?_; clear HC; rintro e w14 ⟨⟨rg, rfl, hrg⟩, HK14⟩; obtain ⟨c6, f6⟩ := HBF.out w14 HK14.out)
              have H5c : Hid _ := (H5b.out.quiet HK14.out).set6 rg
              have HRG : Hid _ := hrg
              clear H5b HBF c5 c6 f6 HK14 hrg
              generalize (w14.setCell ⟨RB, 6, none⟩ (.bool rg)) = w15 at *
              have HC := fun (_ : Unit) => (steps_any OB M oc kd tx ky NB N N (ndF ff N) KS NK (Wrt kd ky M) num sx mb sa sc mn w15 H5c.out.op H5c.out.nm H5c.out.ks).mono (fun e w' h => (⟨h.1, h.2⟩ : RetSteps w15 w' M N NK e ∧ Hid (Keep (fun _ => False) w15 w')))
              go_upto_region 41 with (go_at_call 15; refine (HC ()).mono ?_; clear HC; rintro e w16 ⟨⟨SB, NS, sq, su, sl, sk, rfl, hsp, hns, hsb, hty⟩, HK16⟩)
              have hKS6 := heap_lt (HK16.out.at H5c.out.ks.blk id)
              have HSz : Hid (w15.heap.size ≤ w16.heap.size ∧ w15.heap.size ≤ SB ∧ SB < w16.heap.size ∧ (0 < N → TX < w15.heap.size) ∧ RB < w15.heap.size ∧ w.heap.size ≤ w15.heap.size) := ⟨HK16.out.size, hsb, hsp.lt, fun h0 => (H5c.out.h4.tb h0).2, heap_lt H5c.out.h4.res, H5c.out.h4.k.size⟩
              have H5d : Hid _ := H5c.out.quiet HK16.out
              have HTY : Hid _ := hty
              have HSP : Hid _ := hsp
              have hNS : NS ≤ 2000 := by omega
              have hNK : NK ≤ 3 := H5c.out.ks.nk
              have HS : Hid (∀ v : World, Keep (fun _ => False) w16 v → v.cell? ⟨KS, 1, none⟩ = some (.slice sa NK sc) ∧ (∀ ty, (Builtin.len_ #[49] ty #[.map (some NB)]).run Ybaz.prog v = .ok (.int .i64 (N : Int)) v) ∧ Hid (Keep (fun _ => False) w16 v)) := fun v kv => by
                have h := H5d.out.quiet kv
                refine ⟨cell_of _ _ 1 _ _ h.ks.blk, fun ty => ?_, kv⟩
                obtain ⟨L, hL, _, hrun⟩ := h.nm.map.len keyed31 Ybaz.underlying49
                rw [← HLEN.out L hL]
                exact hrun ty
              have HG : Hid (∀ v : World, Keep (fun _ => False) w16 v → Calls Ybaz.prog 16 #[.slice (some ⟨SB, 0, none⟩) NS sq, .int .i64 (N : Int), .int .i64 (NK : Int)] v fun e w' => ∃ G, e = .returned (.pointer (some ⟨G, 0, none⟩)) ∧ (w'.cell? ⟨KS, 1, none⟩ = some (.slice sa NK sc) ∧ (∀ ty, (Builtin.len_ #[49] ty #[.map (some NB)]).run Ybaz.prog w' = .ok (.int .i64 (N : Int)) w') ∧ Hid (Keep (fun _ => False) w16 w')) ∧ Hid (RetG v w' N (.returned (.pointer (some ⟨G, 0, none⟩)))) ∧ Hid (Keep (fun _ => False) v w')) := fun v kv => by
                refine (graph_any SB NS sq N NK su sl sk v (HSP.out.keep kv id) hN5 hNK hNS).mono ?_
                rintro e w' ⟨⟨G, E, la, lc, aa, ac, ka, kc, ga, gc, last, src, dst, kd', rfl, h⟩, k⟩
                exact ⟨G, rfl, HS.out w' (kv.trans k (fun _ q => q.elim)), ⟨G, E, la, lc, aa, ac, ka, kc, ga, gc, last, src, dst, kd', rfl, h⟩, k⟩
              have HDp : Hid (∀ v : World, Keep (fun _ => False) w16 v → Calls Ybaz.prog 17 #[.slice (some ⟨SB, 0, none⟩) NS sq, .int .i64 (N : Int), .int .i64 (NK : Int)] v fun e w' => ∃ p1 p2 p3 p4 p5 p6 : Nat, e = .returned (.func (.func 54) #[] #[.pointer (some ⟨p1, 0, none⟩), .pointer (some ⟨p2, 0, none⟩), .pointer (some ⟨p3, 0, none⟩), .pointer (some ⟨p4, 0, none⟩), .pointer (some ⟨p5, 0, none⟩), .pointer (some ⟨p6, 0, none⟩)]) ∧ (w'.cell? ⟨KS, 1, none⟩ = some (.slice sa NK sc) ∧ (∀ ty, (Builtin.len_ #[49] ty #[.map (some NB)]).run Ybaz.prog w' = .ok (.int .i64 (N : Int)) w') ∧ Hid (Keep (fun _ => False) w16 w')) ∧ Hid (DEf N NK p1 p2 p3 p4 p5 p6 SB NS sq su sl sk none w' (dB v.heap.size SB) ∧ (p3 ≠ p4 ∧ p1 ≠ SB ∧ p3 ≠ SB ∧ p4 ≠ SB)) ∧ Hid (Keep (fun _ => False) v w')) := fun v kv => by
                refine (deps17_any N NK SB NS sq su sl sk v (HSP.out.keep kv id)).mono ?_
                rintro e w' ⟨⟨p1, p2, p3, p4, p5, p6, rfl, h1, h2⟩, k⟩
                exact ⟨p1, p2, p3, p4, p5, p6, rfl, HS.out w' (kv.trans k (fun _ q => q.elim)), ⟨h1, h2⟩, k⟩
              have h0 := HS.out w16.drew ((Keep.refl _ _).drew)
              have HN1 : (N : Int) ≤ 5 := by omega
              have HN2 : (NK : Int) ≤ 3 := by omega
              clear hsp hns hsb hty HK16 H5c HS
              go_cut [16, 17] from 155 to 172 (fun s16 s17 wx => ∃ G p1 p2 p3 p4 p5 p6 : Nat, s16 = .pointer (some ⟨G, 0, none⟩) ∧ s17 = .func (.func 54) #[] #[.pointer (some ⟨p1, 0, none⟩), .pointer (some ⟨p2, 0, none⟩), .pointer (some ⟨p3, 0, none⟩), .pointer (some ⟨p4, 0, none⟩), .pointer (some ⟨p5, 0, none⟩), .pointer (some ⟨p6, 0, none⟩)] ∧ Hid (G41 w16 N NK SB NS sq su sl sk G p1 p2 p3 p4 p5 p6 wx))
              case first => as_aux_lemma =>
                go_region_held3 (fun w' => w'.cell? ⟨KS, 1, none⟩ = some (.slice sa NK sc) ∧ (∀ ty, (Builtin.len_ #[49] ty #[.map (some NB)]).run Ybaz.prog w' = .ok (.int .i64 (N : Int)) w') ∧ Hid (Keep (fun _ => False) w16 w')) (first | assumption | exact h0) (first
                  | (go_at_call 16; refine (HG.out _ ?_).mono ?_; (go_split_ands; first | exact Hid.out (by assumption)); rintro e wg ⟨G, rfl, hSg, HGb, HKg⟩)
                  | (go_at_call 17; refine (HDp.out _ ?_).mono ?_; (go_split_ands; first | exact Hid.out (by assumption)); rintro e wd ⟨p1, p2, p3, p4, p5, p6, rfl, hSd, HDb, HKd⟩))
                have HF : Hid (G41 w16 N NK SB NS sq su sl sk G p1 p2 p3 p4 p5 p6 wd) := by
                  obtain ⟨G', E, la, lc, aa, ac, ka, kc, ga, gc, last, src, dst, kd', e, hg, hE, hGn⟩ := HGb.out
                  have eG : G = G' := by
                    injection e with e
                    injection e with e
                    exact (Addr.mk.inj (Option.some.inj e)).1
                  subst eG
                  obtain ⟨cur, hcur⟩ := HTY.out
                  have hs : w16.drew.heap.size = w16.heap.size := rfl
                  refine ⟨hSd.2.2.out, wg.heap.size, HDb.out.1, HDb.out.2, by omega, heap_lt hg.blk, E, la, lc, aa, ac, ka, kc, ga, gc, last, src, dst, kd', hg.keep HKd.out (fun _ q => q.elim), hE, fun b eb q => ?_⟩
                  obtain ⟨c2, hb⟩ := hg.vg.block_ty eb
                  rcases q with q | q
                  · exact ne_of_types hb (hSg.2.2.out.at hcur id) (by decide) q
                  · have := heap_lt hb; omega
                clear HGb HDb HKg HKd hSg hSd h0 HG HDp
                go_wp2
                go_meet
                exact ⟨G, p1, p2, p3, p4, p5, p6, rfl, rfl, HF⟩
              case rest =>
                clear HG HDp h0
                obtain ⟨G, p1, p2, p3, p4, p5, p6, rfl, rfl, HF⟩ := hcut
                obtain ⟨w17, rfl⟩ : ∃ w17, w17 = wc := ⟨_, rfl⟩
                have H5e : Hid _ := H5d.out.quiet HF.out.1
                have HT : Hid (∀ (v : World) (aa : Option Addr) (an ac : Nat) (F : Nat → Nat → Value), Keep (fun b => b = RB) w17 v → H5 kd tx ky M OB w RB ta TX N ff NB (ndF ff N) KS NK (Wrt kd ky M) num sx mb sa sc mn se rg (.slice aa an ac) v → Vec v 157 4 aa an ac F → (∀ i, i < an → AnOk (F i)) → an ≤ 2 → (∀ b, aa = some ⟨b, 0, none⟩ → w17.heap.size ≤ b) →
                    Calls Ybaz.prog 19 #[.pointer (some ⟨RB, 0, none⟩), .pointer (some ⟨G, 0, none⟩), .slice ta N tc, .func (.func 54) #[] #[.pointer (some ⟨p1, 0, none⟩), .pointer (some ⟨p2, 0, none⟩), .pointer (some ⟨p3, 0, none⟩), .pointer (some ⟨p4, 0, none⟩), .pointer (some ⟨p5, 0, none⟩), .pointer (some ⟨p6, 0, none⟩)]] v fun e w' => e = .returned (.tuple #[]) ∧ Hid (HistOut kd tx ky M w w' RB)) := by
                  intro v aa an ac F hv1 hv2 hv3 hok han hnw
                  obtain ⟨k16, sz, hd, hp, hG1, hG2, E, la, lc, aa0, acp, ka, kc, ga, gc, last, src, dst, kd', hgb, hE, hga⟩ := HF.out
                  obtain ⟨z1, z2, z3, z4, z5, z6⟩ := HSz.out
                  have hsz := k16.size
                  have hR := hv2.h4.hR
                  have hnTX := hv2.h4.nw
                  have nRB : ¬ dB sz SB RB := fun q => by unfold dB at q; omega
                  have hD := DEf.keep N NK p1 p2 p3 p4 p5 p6 SB NS sq su sl sk none w17 v (dB sz SB) hd (hv1.wide (fun b e q => nRB (by have : b = RB := e; rw [← this]; exact q)))
                  have hgb' := hgb.keep hv1 (fun b e => by
                    have e : b = RB := e
                    subst e
                    refine ⟨hgb.apart H5e.out.h4.res (by decide) (by decide) (by decide), fun q => ?_⟩
                    obtain ⟨c2, hb⟩ := hgb.vg.block_ty q
                    exact ne_of_types hb H5e.out.h4.res (by decide) rfl)
                  refine (settle19_any (DEf N NK p1 p2 p3 p4 p5 p6 SB NS sq su sl sk) p1 p2 p3 p4 p5 p6 G N E la lc aa0 acp ka kc ga gc last src dst kd' ta tc (fun j => (ff j : Int)) (dB sz SB) RB _ _ _ _ se rg aa an ac F v
                    (fun h0 => deps_any N NK p1 p2 p3 p4 p5 p6 SB NS sq su sl sk hN5 h0 hNK hNS hp) (DEf.keep N NK p1 p2 p3 p4 p5 p6 SB NS sq su sl sk) hD hN5 hE hgb' hv2.h4.res hv3 hok han
                    (fun h0 => ⟨TX, (hv2.h4.tb h0).1, (hv2.h4.tb h0).2, hv2.h4.row h0, fun q => by have := z4 h0; unfold dB at q; omega, by have := z4 h0; omega, by omega⟩) hD.1
                    ⟨fun q => by unfold dB at q; omega, hga, nRB, fun b e q => by have := hnw b e; have := hd.1 b q; omega⟩ (by omega)).mono ?_
                  rintro e w' ⟨rfl, ⟨cs, o, y, a, hb⟩, k⟩
                  refine ⟨rfl, hv2.h4.k.trans k (fun b q => .inr ?_), by omega, se, rg, cs, o, y, a, ?_, HSE.out, HRG.out⟩
                  · rcases q with q | q | q | q
                    · omega
                    · omega
                    · unfold dB at q; omega
                    · have := hnw b q; omega
                  · have e : ((N : Nat) : Int) = ((cnt5 fun s => endF kd tx M s == some 99 : Nat) : Int) := congrArg _ HN99.out
                    rw [← e]
                    exact hb
                have c5 : w17.cell? ⟨RB, 5, none⟩ = some (.bool false) := cell_of _ _ 5 _ _ H5e.out.h4.res
                have c6 : w17.cell? ⟨RB, 6, none⟩ = some (.bool rg) := cell_of _ _ 6 _ _ H5e.out.h4.res
                clear HF H5d HTY HSP HSz
                cases rg with
                | true =>
                  have HC := fun (_ : Unit) => HT.out w17 none 0 0 (fun _ _ => .int .u8 0) (Keep.refl _ _) H5e.out (Vec.nil _ _ _ _) (fun i hi => by omega) (by omega) (fun b e => by simp at e)
                  clear HT
                  go_wp2_with (go_at_call 19; refine (HC ()).mono ?_; clear HC; rintro e w18 ⟨rfl, HFin⟩)
                  go_ret
                  exact ⟨RB, rfl, HFin.out⟩
                | false =>
                  have HC := fun (_ : Unit) => (readA_of OB M oc (RB + 1) KS w17 (fun v kv => HSV.out OB M oc kd tx ky KS NK (Wrt kd ky M) num sx mb sa sc mn (RB + 1) M v (H5e.out.quiet kv).op (H5e.out.quiet kv).ks (KH.of (H5e.out.quiet kv).op (H5e.out.quiet kv).ks) ⟨_, (H5e.out.quiet kv).h4.mp, fun l v hv => endM_u8 hv⟩))
                  have HBF : Hid (∀ w' : World, Keep (fun _ => False) w17 w' → w'.cell? ⟨RB, 13, none⟩ = some (.slice none 0 0) ∧ w'.frozen? ⟨RB, 13, none⟩ = false) := fun w' k => ⟨cell_of _ _ 13 _ _ (k.at H5e.out.h4.res id), free_of _ _ 13 _ _ (k.at H5e.out.h4.res id)⟩
                  go_upto_region 44 with (go_at_call 18; refine (HC ()).mono ?_; clear HC; rintro e w18 ⟨a, n, c, F, rfl, hn2, hav⟩; obtain ⟨c13, f13⟩ := HBF.out w18 hav.k)
                  have HC := fun (_ : Unit) => HT.out (w18.setCell ⟨RB, 13, none⟩ (.slice a n c)) a n c F ((hav.k.wide (G := fun b => b = RB) (fun _ q => q.elim)).trans (Keep.setCell w18 ⟨RB, 13, none⟩ _) (fun _ q => .inl q)) ((H5e.out.quiet hav.k).set13 _) (hav.v.keep (Keep.setCell w18 ⟨RB, 13, none⟩ _) (fun g e q => by have := hav.nw g e; have := heap_lt H5e.out.h4.res; have : g = RB := q; omega)) hav.ok hn2 hav.nw
                  clear HT HBF c13 f13 c5 c6 hav
                  generalize (w18.setCell ⟨RB, 13, none⟩ (.slice a n c)) = w19 at *
                  go_wp2_with (go_at_call 19; refine (HC ()).mono ?_; clear HC; rintro e w20 ⟨rfl, HFin⟩)
                  go_ret
                  exact ⟨RB, rfl, HFin.out⟩
        · obtain ⟨x, rfl, rfl⟩ := key31 hkey
          rw [intM_int] at hmk
          have hx0 : 0 ≤ x := by
            unfold valF at hmk
            by_cases q : 0 ≤ x
            · exact q
            · rw [if_neg q] at hmk; simp at hmk
          obtain ⟨t, rfl⟩ : ∃ t : Nat, x = (t : Int) := ⟨x.toNat, by omega⟩
          rw [valF_at] at hmk
          obtain ⟨k, hke, rfl⟩ : ∃ k, endF kd tx M t = some k ∧ v = .int .u8 (k : Int) := by
            unfold endV at hmk
            cases e : endF kd tx M t with
            | none => rw [e] at hmk; simp at hmk
            | some k => rw [e] at hmk; simp at hmk; exact ⟨k, rfl, hmk.symm⟩
          have ht : 1 ≤ t ∧ t ≤ 5 := by
            obtain ⟨j, hj, e⟩ := (endF_some M t).1 (by rw [hke]; rfl)
            rw [← e]; exact HO.out.ht j hj
          have hk9 := endF_kind (fun i hi => by have := HO.out.hk i hi; omega) M (Nat.le_refl _) t k hke
          clear hkey hmk hx0
          rcases hk9 with rfl | rfl | rfl
          · obtain ⟨g6, cap6, w6, hr6, hv6, hk6, hg6, hl6⟩ := run_push (w5.alloc (.cells #[.int .u64 (t : Int)] 31)) 38 31 38 1 8 _ Ybaz.underlying38 inf31 rfl Nat.one_pos (by decide) ta N tc _ ((HR.out.vec.keep hk5 HR.out.notr).alloc _) ⟨w5.heap.size, 0, none⟩ 1 (fun _ => .int .u64 (t : Int)) (new1 w5 _ 31) (fun _ _ => rfl) (by have := HR.out.fN; have := cnt5_le (fun s => vis s && endF kd tx M s == some 99); omega)
            have HF : Hid _ := HR.out.com ht hlk hke hk5 hr5 (.cells #[.int .u64 (t : Int)] 31) hv6 hk6 (or2 hg6 id (fun e => by rw [e]; exact (Keep.alloc (fun _ => False) w5 _).size))
            clear hv6 hk6 hg6 hl6 HR hr5 hk5 hs5 hlk
            go_wp2
            go_roundg cnt'
            case measure => omega
            case rel => exact ⟨_, _, _, _, _, _, rfl, HF⟩
          · obtain ⟨A, hA⟩ : ∃ A, A = cnt5 (fun s => vis s && endF kd tx M s == some 97) := ⟨_, rfl⟩
            have hA5 : A ≤ 5 := by rw [hA]; exact cnt5_le _
            have hres5 := hk5.at HR.out.res (by have := HR.out.hr; show ¬ RB = r; omega)
            rw [← hA] at hres5
            have a1 : (A : Int) ≤ 5 := by omega
            have c2 : w5.cell? ⟨RB, 2, none⟩ = some (.int .i64 (A : Int)) := cell_of _ _ 2 _ _ hres5
            have f2 : w5.frozen? ⟨RB, 2, none⟩ = false := free_of _ _ 2 _ _ hres5
            have HF : Hid _ := HR.out.other ht hlk hke (by omega) hk5 hr5 (Keep.setCell w5 ⟨RB, 2, none⟩ (.int .i64 ((A : Int) + 1))) (by
              rw [← hA]
              have := res_set2 hres5 ((A : Int) + 1)
              simp only [if_true, show ¬ (97 : Nat) = 0 by omega, if_false, Nat.add_zero]
              exact this)
            clear hres5 hA HR hr5 hk5 hs5 hlk
            go_wp2
            generalize w5.setCell ⟨RB, 2, none⟩ (.int .i64 ((A : Int) + 1)) = w6 at *
            go_roundg cnt'
            case measure => omega
            case rel => exact ⟨_, _, _, _, _, _, rfl, HF⟩
          · obtain ⟨A, hA⟩ : ∃ A, A = cnt5 (fun s => vis s && endF kd tx M s == some 0) := ⟨_, rfl⟩
            have hA5 : A ≤ 5 := by rw [hA]; exact cnt5_le _
            have hres5 := hk5.at HR.out.res (by have := HR.out.hr; show ¬ RB = r; omega)
            rw [← hA] at hres5
            have a1 : (A : Int) ≤ 5 := by omega
            have c2 : w5.cell? ⟨RB, 3, none⟩ = some (.int .i64 (A : Int)) := cell_of _ _ 3 _ _ hres5
            have f2 : w5.frozen? ⟨RB, 3, none⟩ = false := free_of _ _ 3 _ _ hres5
            have HF : Hid _ := HR.out.other ht hlk hke (by omega) hk5 hr5 (Keep.setCell w5 ⟨RB, 3, none⟩ (.int .i64 ((A : Int) + 1))) (by
              rw [← hA]
              have := res_set3 hres5 ((A : Int) + 1)
              simp only [if_true, show ¬ (0 : Nat) = 97 by omega, if_false, Nat.add_zero]
              exact this)
            clear hres5 hA HR hr5 hk5 hs5 hlk
            go_wp2
            generalize w5.setCell ⟨RB, 3, none⟩ (.int .i64 ((A : Int) + 1)) = w6 at *
            go_roundg cnt'
            case measure => omega
            case rel => exact ⟨_, _, _, _, _, _, rfl, HF⟩
end Go.Proofs.YbulkdvbsGreat

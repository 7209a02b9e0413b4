/-
  layOut, walked: with the bound on the edges.
-/
import Derived.Test.YbulkdvbsGreatFoll
namespace Go.Proofs.YbulkdvbsGreat
open Go.RowKit
attribute [local go_sem ↓] exec_make95 exec_make155

/-- A laid out graph, with what has turned. -/
def Laid2 (w w' : World) (G n : Nat) (ga : Option Addr) (gc : Nat) : Prop := ∃ E la lc FB NX KN first next kd, GL w' G n E la lc ga gc FB NX KN vnil first next kd ∧ Keep (fun b => b = G) w w' ∧ w.heap.size ≤ FB ∧ w.heap.size ≤ NX ∧ w.heap.size ≤ KN ∧ FB ≠ NX ∧ E ≤ 100000

set_option maxHeartbeats 8000000 in
set_option maxRecDepth 100000 in
theorem layOut2_any (G n E : Nat) (la : Option Addr) (lc : Nat) (aa : Option Addr) (acp : Nat) (ka : Option Addr) (kc : Nat) (ga : Option Addr) (gc : Nat) (last src dst kd : Nat → Int) (w : World) (h : GB w G n E la lc aa acp ka kc ga gc last src dst kd) (hn : n ≤ 5) (hE : E ≤ 100000) :
    Calls Ybaz.prog 192 #[.pointer (some ⟨G, 0, none⟩)] w fun e w' => e = .returned (.tuple #[]) ∧ Laid2 w w' G n ga gc := by
  have n1 : (n : Int) ≤ 5 := by omega
  have E1 : (E : Int) ≤ 100000 := by omega
  have r1 : ∀ W, (opMk 95 (.int .i64 ((n : Int) + 1)) (.int .i64 ((n : Int) + 1))).run Ybaz.prog W = .ok (.value (.slice (some ⟨W.heap.size, 0, none⟩) (n + 1) (n + 1))) (W.alloc (.cells (mc (.int .i32 0) 1 (n + 1)) 21)) := fun W => run_mkv 95 21 (.int .i32 0) 1 4 Ybaz.underlying95 inf21 (by omega) W (n + 1) (by omega)
  have c1 : w.cell? ⟨G, 1, none⟩ = some (.slice la n lc) := cell_of w G 1 _ _ h.blk
  have HN := fun _ : Unit => nodes_any G n lc la w c1
  have hGl := heap_lt h.blk
  obtain ⟨wA, hwA⟩ : ∃ wA, wA = (w.setCell ⟨G, 5, none⟩ (.slice (some ⟨w.heap.size, 0, none⟩) (n + 1) (n + 1))).alloc (.cells (mc (.int .i32 0) 1 (n + 1)) 21) := ⟨_, rfl⟩
  have kS := Keep.setCell w ⟨G, 5, none⟩ (.slice (some ⟨w.heap.size, 0, none⟩) (n + 1) (n + 1))
  have KA : Hid (Keep (fun b => b = G) w wA) := by rw [hwA]; exact kS.trans (Keep.alloc (fun _ => False) _ _) (fun _ q => q.elim)
  have HB : Hid (wA.heap[G]? = some (.cells (gcells n (.slice la n lc) (.slice aa (E + E) acp) (.slice ka E kc) (.slice ga (gn n) gc) (.slice (some ⟨w.heap.size, 0, none⟩) (n + 1) (n + 1)) vnil vnil vnil) 201)) := by rw [hwA]; exact heap_grow _ (heap_set w G 5 _ _ _ h.blk)
  have VA : Hid _ := h.va.keep KA.out (fun b hb q => by subst q; exact h.va.off h.blk (by decide) hb)
  have VK : Hid _ := h.vk.keep KA.out (fun b hb q => by subst q; exact h.vk.off h.blk (by decide) hb)
  have VG : Hid _ := h.vg.keep KA.out (fun b hb q => by subst q; exact h.vg.off h.blk (by decide) hb)
  have hFz : wA.heap[w.heap.size]? = some (.cells (mc (.int .i32 0) 1 (n + 1)) 21) := by rw [hwA]; have := heap_alloc_new (w.setCell ⟨G, 5, none⟩ (.slice (some ⟨w.heap.size, 0, none⟩) (n + 1) (n + 1))) (.cells (mc (.int .i32 0) 1 (n + 1)) 21); simpa [World.setCell] using this
  have RF : Hid (Row wA w.heap.size (n + 1) (fun _ => .int .i32 0)) := Row.made1 wA _ _ _ 21 rfl hFz
  have lF : w.heap.size < wA.heap.size := heap_lt hFz
  have laa : ∀ b, aa = some ⟨b, 0, none⟩ → b < w.heap.size := fun b hb => h.va.lt hb
  have lka : ∀ b, ka = some ⟨b, 0, none⟩ → b < w.heap.size := fun b hb => h.vk.lt hb
  have lga : ∀ b, ga = some ⟨b, 0, none⟩ → b < w.heap.size := fun b hb => h.vg.lt hb
  have c5 : w.cell? ⟨G, 5, none⟩ = some (.slice none 0 0) := cell_of w G 5 _ _ h.blk
  have f5 := free_of w G 5 _ _ h.blk
  have nG : G ≠ w.heap.size := by omega
  have hs := h.hs
  clear h kS
  go_enter Ybaz.func192, Ybaz.ntmps192
  go_upto_region 1 with (first
    | (go_at_call 127; refine (HN ()).mono ?_; rintro e w2 ⟨rfl, rfl⟩))
  rw [← hwA]
  clear hwA hFz HN c5 f5 c1
  generalize hFB : w.heap.size = FB at *
  go_wp2
  go_loopw [2] (fun s wr => ∃ k : Nat, k ≤ E ∧ s = .int .i64 ((k : Int) + (k : Int)) ∧ Hid (Row wr FB (n + 1) (fun i => .int .i32 (if i = 0 then 0 else (cnt src (i - 1) k : Int)))) ∧ Hid (Keep (fun b => b = FB) wA wr)) (fun s _ => E + E - (intOf s).toNat)
  case atStart => exact ⟨0, Nat.zero_le _, rfl, RF.out.congr (fun i _ => by simp [cnt]), Keep.refl _ _⟩
  case round =>
    obtain ⟨k, hk, rfl, HR, HK⟩ := hrel
    have hB2 := HK.out.at HB.out nG
    have c2 : wr.cell? ⟨G, 2, none⟩ = some (.slice aa (E + E) acp) := cell_of wr G 2 _ _ hB2
    have c5 : wr.cell? ⟨G, 5, none⟩ = some (.slice (some ⟨FB, 0, none⟩) (n + 1) (n + 1)) := cell_of wr G 5 _ _ hB2
    by_cases hlt : k < E
    · have k1 : (k : Int) + (k : Int) < (E : Int) + (E : Int) := by omega
      have k2 : ((k : Int) + (k : Int)).toNat = k + k := by omega
      have k3 : (0 : Int) ≤ (k : Int) + (k : Int) := by omega
      obtain ⟨gA, rfl, hgA, rA⟩ := VA.out.blk (by omega)
      have hgl := laa gA rfl
      have ea : wr.cell? ⟨gA, k + k, none⟩ = some (.int .i32 (src k)) := by
        have := rA.cell (k + k) 0 (by omega) (by omega)
        simp only [Nat.mul_one, Nat.add_zero] at this
        rw [if_pos (by omega), show (k + k) / 2 = k by omega] at this
        exact (HK.out.cell ⟨gA, k + k, none⟩ hgA (by show ¬ gA = FB; omega)).trans this
      obtain ⟨s, hsk⟩ : ∃ s : Nat, Hid (src k = (s : Int)) := ⟨(src k).toNat, by have := (hs k hlt).1; show src k = _; omega⟩
      have hsn : s < n := by have := (hs k hlt).1; have := hsk.out; omega
      rw [hsk.out] at ea
      have q1 : IntKind.i32.wrap ((s : Int) + 1) = (s : Int) + 1 := by unfold IntKind.wrap; simp [IntKind.bits, IntKind.signed]; omega
      have q2 : ((s : Int) + 1).toNat = s + 1 := by omega
      have q3 : (s : Int) + 1 < (n : Int) + 1 := by omega
      have q4 : (0 : Int) ≤ (s : Int) + 1 := by omega
      have cb := cnt_mono src s k E hk
      obtain ⟨C, hC⟩ : ∃ C, Hid (C = cnt src s k) := ⟨_, rfl⟩
      have ef : wr.cell? ⟨FB, s + 1, none⟩ = some (.int .i32 (C : Int)) := by have := HR.out.cell (s + 1) (by omega); rw [this, hC.out]; simp
      have ff := HR.out.free (s + 1)
      have hC2 : C ≤ k := by rw [hC.out]; exact cnt_le src s k
      have q5 : IntKind.i32.wrap ((C : Int) + 1) = (C : Int) + 1 := by unfold IntKind.wrap; simp [IntKind.bits, IntKind.signed]; omega
      have HR2 : Hid (Row (wr.setCell ⟨FB, s + 1, none⟩ (.int .i32 ((C : Int) + 1))) FB (n + 1) (fun i => .int .i32 (if i = 0 then 0 else (cnt src (i - 1) (k + 1) : Int)))) := (HR.out.set (s + 1) (.int .i32 ((C : Int) + 1)) (by omega)).congr (fun i _ => by
        by_cases e : i = s + 1
        · subst e; simp [cnt, hsk.out, hC.out]
        · have : ¬ (i ≠ 0 ∧ src k = ((i - 1 : Nat) : Int)) := by rintro ⟨h1, h2⟩; have := hsk.out; omega
          by_cases e0 : i = 0
          · simp [e0]
          · have h2 : ¬ src k = ((i - 1 : Nat) : Int) := fun q => this ⟨e0, q⟩
            simp only [e, e0, if_false, cnt, h2, Nat.add_zero])
      have HK2 : Hid (Keep (fun b => b = FB) wA (wr.setCell ⟨FB, s + 1, none⟩ (.int .i32 ((C : Int) + 1)))) := HK.out.trans (Keep.setCell wr ⟨FB, s + 1, none⟩ _) (fun _ h => .inl h)
      clear hB2 cb
      go_upto_region 4 with fail
      go_region
      go_wp2
      go_roundw
      case rel => exact ⟨k + 1, by omega, by go_num, ⟨HR2.out.cell, HR2.out.free⟩, HK2.out.drew⟩
      case measure => simp [intOf]; omega
    · have e : E = k := by omega
      subst e
      have HNB := fun _ : Unit => nodes_any G n lc la wr (cell_of wr G 1 _ _ hB2)
      clear hB2
      go_wp2_with (first
        | (go_at_call 127; refine (HNB ()).mono ?_; rintro e w2 ⟨rfl, rfl⟩))
      go_loopw [42] (fun s w2 => ∃ u : Nat, u ≤ n ∧ s = .int .i64 (u : Int) ∧ Hid (Row w2 FB (n + 1) (fun i => .int .i32 (if i ≤ u then (pre src E i : Int) else (cnt src (i - 1) E : Int)))) ∧ Hid (Keep (fun b => b = FB) wA w2)) (fun s _ => n - (intOf s).toNat)
      case atStart => exact ⟨0, Nat.zero_le _, rfl, HR.out.congr (fun i _ => by
        by_cases e0 : i = 0
        · simp [e0, pre]
        · simp [e0]), HK⟩
      case round =>
        clear HR HK HNB c5 c2
        obtain ⟨u, hu, rfl, HR, HK⟩ := hrel
        have hB2 := HK.out.at HB.out nG
        have c5 : wr.cell? ⟨G, 5, none⟩ = some (.slice (some ⟨FB, 0, none⟩) (n + 1) (n + 1)) := cell_of wr G 5 _ _ hB2
        by_cases hlt : u < n
        · have u1 : (u : Int) < (n : Int) := by omega
          have u2 : (u : Int).toNat = u := by omega
          have u3 : ((u : Int) + 1).toNat = u + 1 := by omega
          have u4 : (u : Int) + 1 < (n : Int) + 1 := by omega
          have u5 : (0 : Int) ≤ (u : Int) + 1 := by omega
          have u6 : (u : Int) < (n : Int) + 1 := by omega
          have uw : IntKind.i64.wrap ((u : Int) + 1) = (u : Int) + 1 := by rw [IntKind.wrap_i64]; omega
          obtain ⟨A, hA⟩ : ∃ A, Hid (A = pre src E u) := ⟨_, rfl⟩
          obtain ⟨C, hC⟩ : ∃ C, Hid (C = cnt src u E) := ⟨_, rfl⟩
          have ea : wr.cell? ⟨FB, u, none⟩ = some (.int .i32 (A : Int)) := by have := HR.out.cell u (by omega); rw [this, hA.out]; simp only [Nat.le_refl, if_true]
          have ec : wr.cell? ⟨FB, u + 1, none⟩ = some (.int .i32 (C : Int)) := by have := HR.out.cell (u + 1) (by omega); rw [this, hC.out, if_neg (by omega)]; rfl
          have fc := HR.out.free (u + 1)
          have hAC : A + C ≤ E := by
            rw [hA.out, hC.out]
            have := pre_le src (u + 1) E
            exact this
          have qw : IntKind.i32.wrap ((C : Int) + (A : Int)) = (C : Int) + (A : Int) := by unfold IntKind.wrap; simp [IntKind.bits, IntKind.signed]; omega
          have HR2 : Hid (Row (wr.setCell ⟨FB, u + 1, none⟩ (.int .i32 ((C : Int) + (A : Int)))) FB (n + 1) (fun i => .int .i32 (if i ≤ u + 1 then (pre src E i : Int) else (cnt src (i - 1) E : Int)))) := (HR.out.set (u + 1) (.int .i32 ((C : Int) + (A : Int))) (by omega)).congr (fun i _ => by
            by_cases e : i = u + 1
            · subst e
              simp only [if_true, Nat.le_refl]
              have : pre src E (u + 1) = A + C := by rw [hA.out, hC.out]; rfl
              rw [this]; congr 1; omega
            · by_cases e2 : i ≤ u
              · simp [e, e2, show i ≤ u + 1 by omega]
              · simp [e, e2, show ¬ i ≤ u + 1 by omega])
          have HK2 : Hid (Keep (fun b => b = FB) wA (wr.setCell ⟨FB, u + 1, none⟩ (.int .i32 ((C : Int) + (A : Int))))) := HK.out.trans (Keep.setCell wr ⟨FB, u + 1, none⟩ _) (fun _ h => .inl h)
          clear hB2
          go_upto_region 8 with fail
          go_region
          go_wp2
          go_roundw
          case rel => exact ⟨u + 1, by omega, by go_num, ⟨HR2.out.cell, HR2.out.free⟩, HK2.out.drew⟩
          case measure => simp [intOf]; omega
        · have e : n = u := by omega
          subst e
          clear hB2 c5
          have HRF : Hid (Row wr FB (n + 1) (fun i => .int .i32 (pre src E i : Int))) := HR.out.congr (fun i hi => by simp [show i ≤ n by omega])
          have hBr : wr.heap[G]? = some (.cells (gcells n (.slice la n lc) (.slice aa (E + E) acp) (.slice ka E kc) (.slice ga (gn n) gc) (.slice (some ⟨FB, 0, none⟩) (n + 1) (n + 1)) vnil vnil vnil) 201) := HK.out.at HB.out nG
          have c3 : wr.cell? ⟨G, 3, none⟩ = some (.slice ka E kc) := cell_of wr G 3 _ _ hBr
          have c6 : wr.cell? ⟨G, 6, none⟩ = some (.slice none 0 0) := cell_of wr G 6 _ _ hBr
          have f6 := free_of wr G 6 _ _ hBr
          have r2 := fun W => run_mkv 95 21 (.int .i32 0) 1 4 Ybaz.underlying95 inf21 (by omega) W E (by omega)
          have hG2 : G < wr.heap.size := heap_lt hBr
          have nG2 : G ≠ wr.heap.size := by omega
          obtain ⟨hB6, hR6, hK6, hL6⟩ := field_make (i := 6) (n := E) (e := 21) (z := .int .i32 0) hBr rfl
          go_upto_region 11 with fail
          generalize (wr.setCell ⟨G, 6, none⟩ (.slice (some ⟨wr.heap.size, 0, none⟩) E E)).alloc (.cells (mc (.int .i32 0) 1 E) 21) = w6 at *
          have hFBw : FB < wr.heap.size := by have := HK.out.size; omega
          have hRF6 := HRF.out.keep (hK6.block FB hFBw (by show ¬ FB = G; omega))
          generalize hNX : wr.heap.size = NX at *
          have hB6' : w6.heap[G]? = some (.cells (gcells n (.slice la n lc) (.slice aa (E + E) acp) (.slice ka E kc) (.slice ga (gn n) gc) (.slice (some ⟨FB, 0, none⟩) (n + 1) (n + 1)) (.slice (some ⟨NX, 0, none⟩) E E) vnil vnil) 201) := hB6
          have c3' : w6.cell? ⟨G, 3, none⟩ = some (.slice ka E kc) := cell_of w6 G 3 _ _ hB6'
          have c7 : w6.cell? ⟨G, 7, none⟩ = some (.slice none 0 0) := cell_of w6 G 7 _ _ hB6'
          have f7 := free_of w6 G 7 _ _ hB6'
          have r3 := fun W => run_mkv 155 96 (.int .u8 0) 1 1 Ybaz.underlying155 inf96 (by omega) W E (by omega)
          have hG6 : G < w6.heap.size := heap_lt hB6'
          have nG6 : G ≠ w6.heap.size := by omega
          obtain ⟨hB7, hR7, hK7, hL7⟩ := field_make (i := 7) (n := E) (e := 96) (z := .int .u8 0) hB6' rfl
          clear c3 c6 f6
          go_upto_region 12 with fail
          generalize (w6.setCell ⟨G, 7, none⟩ (.slice (some ⟨w6.heap.size, 0, none⟩) E E)).alloc (.cells (mc (.int .u8 0) 1 E) 96) = w7 at *
          have hRF7 := hRF6.keep (hK7.block FB (by omega) (by show ¬ FB = G; omega))
          have hRN7 := hR6.keep (hK7.block NX (by omega) (by show ¬ NX = G; omega))
          have kA7 : Keep (fun b => b = G ∨ b = FB) wA w7 := ((HK.out.wide (fun b q => .inr q)).trans hK6 (fun b q => .inl (.inl q))).trans hK7 (fun b q => .inl (.inl q))
          generalize hKN : w6.heap.size = KN at *
          have HB7 : Hid (w7.heap[G]? = some (.cells (gcells n (.slice la n lc) (.slice aa (E + E) acp) (.slice ka E kc) (.slice ga (gn n) gc) (.slice (some ⟨FB, 0, none⟩) (n + 1) (n + 1)) (.slice (some ⟨NX, 0, none⟩) E E) (.slice (some ⟨KN, 0, none⟩) E E) vnil) 201)) := hB7
          have hFBA : FB < wA.heap.size := lF
          have hsz := HK.out.size
          have VA7 : Hid _ := VA.out.keep kA7 (fun b hb q => by
            rcases q with q | q
            · subst q; exact VA.out.off HB.out (by decide) hb
            · have := laa b hb; omega)
          have VK7 : Hid _ := VK.out.keep kA7 (fun b hb q => by
            rcases q with q | q
            · subst q; exact VK.out.off HB.out (by decide) hb
            · have := lka b hb; omega)
          have VG7 : Hid _ := VG.out.keep kA7 (fun b hb q => by
            rcases q with q | q
            · subst q; exact VG.out.off HB.out (by decide) hb
            · have := lga b hb; omega)
          have HRF7 : Hid _ := hRF7
          have HRN7 : Hid _ := hRN7
          have HRK7 : Hid (Row w7 KN E (fun _ => .int .u8 0)) := hR7
          have HKA7 : Hid (Keep (fun b => b = G) w w7) := KA.out.trans kA7 (fun b q => by
            rcases q with q | q
            · exact .inl q
            · exact .inr (by omega))
          clear hB7 hR7 hK7 hRF7 hRN7 kA7 hB6 hB6' hR6 hK6 hRF6 HR HK HRF hBr c3' c7 f7 VA VK VG HB r1 r2 r3
          have c1 : w7.cell? ⟨G, 1, none⟩ = some (.slice la n lc) := cell_of w7 G 1 _ _ HB7.out
          have c5 : w7.cell? ⟨G, 5, none⟩ = some (.slice (some ⟨FB, 0, none⟩) (n + 1) (n + 1)) := cell_of w7 G 5 _ _ HB7.out
          have lG7 := heap_lt HB7.out
          have HNo : Hid (∀ v : World, Keep (fun _ => False) w7 v → Calls Ybaz.prog 127 #[.pointer (some ⟨G, 0, none⟩)] v fun e w' => e = .returned (.int .i64 (n : Int)) ∧ v = w') := fun v kv => nodes_any G n lc la v ((kv.cell ⟨G, 1, none⟩ lG7 (fun q => q)).trans c1)
          have HCl : Hid (∀ v : World, Keep (fun _ => False) w7 v → Calls Ybaz.prog 118 #[.slice (some ⟨FB, 0, none⟩) n (n + 1)] v fun e w' => ∃ a c, e = .returned (.slice a n c) ∧ (w'.cell? ⟨G, 1, none⟩ = some (.slice la n lc) ∧ w'.cell? ⟨G, 5, none⟩ = some (.slice (some ⟨FB, 0, none⟩) (n + 1) (n + 1))) ∧ Hid (Vec w' 21 1 a n c (fun i _ => .int .i32 (pre src E i : Int))) ∧ Hid (∀ b, a = some ⟨b, 0, none⟩ → w7.heap.size ≤ b) ∧ Hid (Keep (fun _ => False) w7 w')) := fun v kv => by
            have rv := HRF7.out.keep (kv.block FB (by omega) (fun q => q))
            refine (clone32 FB n (n + 1) (fun i => (pre src E i : Int)) v (by omega) (by have := kv.size; omega) (fun i hi => rv.cell i (by omega))).mono ?_
            rintro e w' ⟨a, c, rfl, h1, h2, h3⟩
            have kk := kv.trans h3 (fun _ q => q.elim)
            exact ⟨a, c, rfl, ⟨(kk.cell ⟨G, 1, none⟩ lG7 (fun q => q)).trans c1, (kk.cell ⟨G, 5, none⟩ lG7 (fun q => q)).trans c5⟩, h1, fun b hb => Nat.le_trans kv.size (h2 b hb), kk⟩
          have n2 : (0 : Int) ≤ (n : Int) := by omega
          have n3 : (n : Int) ≤ (n : Int) + 1 := by omega
          have n4 : (n : Int).toNat = n := by omega
          go_region_held3 (fun w' => w'.cell? ⟨G, 1, none⟩ = some (.slice la n lc) ∧ w'.cell? ⟨G, 5, none⟩ = some (.slice (some ⟨FB, 0, none⟩) (n + 1) (n + 1))) (first | assumption | go_keep) (first
            | (go_at_call 127; refine (HNo.out _ ?_).mono ?_; (exact ⟨rfl, rfl, rfl, Nat.le_refl _, fun _ _ _ => rfl⟩); rintro e w2 ⟨rfl, rfl⟩)
            | (go_at_call 118; refine (HCl.out _ ?_).mono ?_; (exact ⟨rfl, rfl, rfl, Nat.le_refl _, fun _ _ _ => rfl⟩); rintro e w8 ⟨fa, fc, rfl, hS8, HV8, Hfa, HK8⟩))
          have HB8 : Hid (w8.heap[G]? = some (.cells (gcells n (.slice la n lc) (.slice aa (E + E) acp) (.slice ka E kc) (.slice ga (gn n) gc) (.slice (some ⟨FB, 0, none⟩) (n + 1) (n + 1)) (.slice (some ⟨NX, 0, none⟩) E E) (.slice (some ⟨KN, 0, none⟩) E E) vnil) 201)) := HK8.out.at HB7.out (fun q => q)
          have VA8 : Hid _ := VA7.out.keep HK8.out (fun _ _ q => q)
          have VK8 : Hid _ := VK7.out.keep HK8.out (fun _ _ q => q)
          have VG8 : Hid _ := VG7.out.keep HK8.out (fun _ _ q => q)
          have HRF8 : Hid _ := HRF7.out.keep (HK8.out.block FB (by omega) (fun q => q))
          have HRN8 : Hid _ := HRN7.out.keep (HK8.out.block NX (by omega) (fun q => q))
          have HRK8 : Hid _ := HRK7.out.keep (HK8.out.block KN (by omega) (fun q => q))
          have HKA8 : Hid (Keep (fun b => b = G) w w8) := HKA7.out.trans HK8.out (fun _ q => q.elim)
          have hs8 := HK8.out.size
          have dist : G < FB ∧ FB < NX ∧ NX < KN ∧ KN < w7.heap.size := by omega
          obtain ⟨d1, d2, d3, d4⟩ := dist
          clear HB7 VA7 VK7 VG7 HRF7 HRN7 HRK7 HKA7 HNo HCl c1 c5 hS8
          have c3 : w8.cell? ⟨G, 3, none⟩ = some (.slice ka E kc) := cell_of w8 G 3 _ _ HB8.out
          go_wp2
          clear c3
          go_loopw [94] (fun s wr => ∃ (k : Nat) (nx kn : Nat → Int), k ≤ E ∧ s = .int .i64 (k : Int) ∧ Hid (Row wr NX E (fun i => .int .i32 (nx i))) ∧ Hid (Row wr KN E (fun i => .int .u8 (kn i))) ∧ Hid (Vec wr 21 1 fa n fc (fun i _ => .int .i32 ((pre src E i + cnt src i k : Nat) : Int))) ∧ Hid (∀ i, i < E → 0 ≤ nx i ∧ nx i < n) ∧ Hid (∀ i, i < E → 0 ≤ kn i ∧ kn i ≤ 255) ∧ Hid (Keep (fun b => b = NX ∨ b = KN ∨ fa = some ⟨b, 0, none⟩) w8 wr)) (fun s _ => E - (intOf s).toNat)
          case atStart => exact ⟨0, fun _ => 0, fun _ => 0, Nat.zero_le _, rfl, HRN8, HRK8, HV8.out.congr Nat.one_pos (fun i c _ _ => by simp [cnt]), fun i hi => by have := (hs i hi).1; show (0 : Int) ≤ 0 ∧ (0 : Int) < n; omega, fun i _ => by show (0 : Int) ≤ 0 ∧ (0 : Int) ≤ 255; omega, Keep.refl _ _⟩
          case round =>
            obtain ⟨k, nx, kn, hk, rfl, HX, HN, HF, Hx, Hn, HK9⟩ := hrel
            have own8 : ∀ b, b < w7.heap.size → b ≠ NX → b ≠ KN → ¬ (b = NX ∨ b = KN ∨ fa = some ⟨b, 0, none⟩) := fun b hb h1 h2 q => by
              rcases q with q | q | q
              · exact h1 q
              · exact h2 q
              · have := Hfa.out b q; omega
            have hB9 := HK9.out.at HB8.out (own8 G (by omega) (by omega) (by omega))
            by_cases hlt : k < E
            · obtain ⟨gA, rfl, hgA, rA⟩ := VA8.out.blk (by omega)
              obtain ⟨gK, rfl, hgK, rK⟩ := VK8.out.blk (by omega)
              have lA := laa gA rfl
              have lK := lka gK rfl
              have oA := own8 gA (by omega) (by omega) (by omega)
              have oK := own8 gK (by omega) (by omega) (by omega)
              obtain ⟨hsk, htk, hdk⟩ := hs k hlt
              obtain ⟨s, Hs⟩ : ∃ s : Nat, Hid (src k = (s : Int)) := ⟨(src k).toNat, by show src k = _; omega⟩
              have hsn : s < n := by have := Hs.out; omega
              obtain ⟨t, Ht⟩ : ∃ t : Int, Hid (t = dst k) := ⟨_, rfl⟩
              obtain ⟨d, Hd⟩ : ∃ d : Int, Hid (d = kd k) := ⟨_, rfl⟩
              have ea : wr.cell? ⟨gA, k + k, none⟩ = some (.int .i32 (s : Int)) := by
                have := rA.cell (k + k) 0 (by omega) (by omega)
                simp only [Nat.mul_one, Nat.add_zero] at this
                rw [if_pos (by omega), show (k + k) / 2 = k by omega, Hs.out] at this
                exact (HK9.out.cell ⟨gA, k + k, none⟩ hgA oA).trans this
              have eb : wr.cell? ⟨gA, k + k + 1, none⟩ = some (.int .i32 t) := by
                have := rA.cell (k + k + 1) 0 (by omega) (by omega)
                simp only [Nat.mul_one, Nat.add_zero] at this
                rw [if_neg (by omega), show (k + k + 1) / 2 = k by omega, ← Ht.out] at this
                exact (HK9.out.cell ⟨gA, k + k + 1, none⟩ hgA oA).trans this
              have ek : wr.cell? ⟨gK, k, none⟩ = some (.int .u8 d) := by
                have := rK.cell k 0 (by omega) (by omega)
                simp only [Nat.mul_one, Nat.add_zero] at this
                rw [← Hd.out] at this
                exact (HK9.out.cell ⟨gK, k, none⟩ hgK oK).trans this
              obtain ⟨gF, rfl, hgF, rF⟩ := HF.out.blk (by omega)
              have lF9 := Hfa.out gF rfl
              obtain ⟨P, HP⟩ : ∃ P, Hid (P = pre src E s + cnt src s k) := ⟨_, rfl⟩
              have hPE : P < E := by
                have h1 := cnt_lt src s k E hlt Hs.out
                have h2 : pre src E s + cnt src s E ≤ E := pre_le src (s + 1) E
                have := HP.out; omega
              have ef : wr.cell? ⟨gF, s, none⟩ = some (.int .i32 (P : Int)) := by
                have := rF.cell s 0 hsn (by omega)
                simp only [Nat.mul_one, Nat.add_zero] at this
                rw [← HP.out] at this; exact this
              have ff := rF.free s
              have en := HX.out.cell P hPE
              have fn := HX.out.free P
              have eq := HN.out.cell P hPE
              have fq := HN.out.free P
              have p1 : (k : Int) < (E : Int) := by omega
              have p2 : (k : Int).toNat = k := by omega
              have p3 : (2 * (k : Int)).toNat = k + k := by omega
              have p4 : (2 * (k : Int) + 1).toNat = k + k + 1 := by omega
              have p5 : 2 * (k : Int) < (E : Int) + (E : Int) := by omega
              have p6 : 2 * (k : Int) + 1 < (E : Int) + (E : Int) := by omega
              have p7 : (0 : Int) ≤ 2 * (k : Int) := by omega
              have p8 : (0 : Int) ≤ 2 * (k : Int) + 1 := by omega
              have p9 : IntKind.i64.wrap (2 * (k : Int)) = 2 * (k : Int) := by rw [IntKind.wrap_i64]; omega
              have p10 : IntKind.i64.wrap (2 * (k : Int) + 1) = 2 * (k : Int) + 1 := by rw [IntKind.wrap_i64]; omega
              have p11 : (s : Int) < (n : Int) := by omega
              have p12 : (s : Int).toNat = s := by omega
              have p13 : (P : Int) < (E : Int) := by omega
              have p14 : (P : Int).toNat = P := by omega
              have p15 : IntKind.i32.wrap ((P : Int) + 1) = (P : Int) + 1 := by unfold IntKind.wrap; simp [IntKind.bits, IntKind.signed]; omega
              have c2 : wr.cell? ⟨G, 2, none⟩ = some (.slice (some ⟨gA, 0, none⟩) (E + E) acp) := cell_of wr G 2 _ _ hB9
              have c6 : wr.cell? ⟨G, 6, none⟩ = some (.slice (some ⟨NX, 0, none⟩) E E) := cell_of wr G 6 _ _ hB9
              have c7 : wr.cell? ⟨G, 7, none⟩ = some (.slice (some ⟨KN, 0, none⟩) E E) := cell_of wr G 7 _ _ hB9
              have n78 : NX ≠ KN := by omega
              have n79 : gF ≠ NX := by omega
              have n80 : gF ≠ KN := by omega
              have n81 : gK ≠ NX := by omega
              have n82 : gK ≠ KN := by omega
              have n83 : gA ≠ NX := by omega
              have n84 : gA ≠ KN := by omega
              have n85 : G ≠ NX := by omega
              have n86 : G ≠ KN := by omega
              clear hB9
              go_upto_region 17 with fail
              go_region
              have ka := Keep.setCell wr ⟨NX, P, none⟩ (.int .i32 t)
              have kb := Keep.setCell (wr.setCell ⟨NX, P, none⟩ (.int .i32 t)) ⟨KN, P, none⟩ (.int .u8 d)
              have kc' := Keep.setCell ((wr.setCell ⟨NX, P, none⟩ (.int .i32 t)).setCell ⟨KN, P, none⟩ (.int .u8 d)) ⟨gF, s, none⟩ (.int .i32 ((P : Int) + 1))
              have lX : NX < wr.heap.size := by have := HK9.out.size; omega
              have lN : KN < wr.heap.size := by have := HK9.out.size; omega
              have HX2 : Hid (Row (((wr.setCell ⟨NX, P, none⟩ (.int .i32 t)).setCell ⟨KN, P, none⟩ (.int .u8 d)).setCell ⟨gF, s, none⟩ (.int .i32 ((P : Int) + 1))) NX E (fun i => .int .i32 (if i = P then t else nx i))) :=
                (((HX.out.set P (.int .i32 t) hPE).keep (kb.block NX (by have := ka.size; omega) n78)).keep (kc'.block NX (by have := ka.size; have := kb.size; omega) (fun q => n79 q.symm))).congr (fun i _ => by split <;> rfl)
              have HN2 : Hid (Row (((wr.setCell ⟨NX, P, none⟩ (.int .i32 t)).setCell ⟨KN, P, none⟩ (.int .u8 d)).setCell ⟨gF, s, none⟩ (.int .i32 ((P : Int) + 1))) KN E (fun i => .int .u8 (if i = P then d else kn i))) :=
                (((HN.out.keep (ka.block KN lN (fun q => n78 q.symm))).set P (.int .u8 d) hPE).keep (kc'.block KN (by have := ka.size; have := kb.size; omega) (fun q => n80 q.symm))).congr (fun i _ => by split <;> rfl)
              have hfs := ((HF.out.keep ka (fun b hb q => by injection hb with hb; injection hb with hb; subst hb; exact n79 q)).keep kb (fun b hb q => by injection hb with hb; injection hb with hb; subst hb; exact n80 q)).set s 0 (.int .i32 ((P : Int) + 1)) hsn (by omega)
              rw [Nat.mul_one, Nat.add_zero] at hfs
              have HF2 : Hid (Vec (((wr.setCell ⟨NX, P, none⟩ (.int .i32 t)).setCell ⟨KN, P, none⟩ (.int .u8 d)).setCell ⟨gF, s, none⟩ (.int .i32 ((P : Int) + 1))) 21 1 (some ⟨gF, 0, none⟩) n fc (fun i _ => .int .i32 ((pre src E i + cnt src i (k + 1) : Nat) : Int))) := hfs.congr Nat.one_pos (fun i c _ hc => by
                by_cases q : i = s
                · subst q
                  have e1 : cnt src i (k + 1) = cnt src i k + 1 := by show cnt src i k + _ = _; rw [if_pos Hs.out]
                  rw [e1]
                  simp only [show c = 0 by omega, and_self, if_true]
                  congr 1
                  have := HP.out; omega
                · have e1 : cnt src i (k + 1) = cnt src i k := by show cnt src i k + _ = _; rw [if_neg (by have := Hs.out; omega)]; rfl
                  rw [e1]
                  simp only [q, false_and, if_false])
              have HK10 : Hid (Keep (fun b => b = NX ∨ b = KN ∨ some (⟨gF, 0, none⟩ : Addr) = some ⟨b, 0, none⟩) w8 (((wr.setCell ⟨NX, P, none⟩ (.int .i32 t)).setCell ⟨KN, P, none⟩ (.int .u8 d)).setCell ⟨gF, s, none⟩ (.int .i32 ((P : Int) + 1)))) :=
                ((HK9.out.trans ka (fun b q => .inl (.inl q))).trans kb (fun b q => .inl (.inr (.inl q)))).trans kc' (fun b q => .inl (.inr (.inr (by rw [q]))))
              have Hx2 : Hid (∀ i, i < E → 0 ≤ (if i = P then t else nx i) ∧ (if i = P then t else nx i) < n) := fun i hi => by
                have := Hx.out i hi
                have := Ht.out
                split <;> omega
              have Hn2 : Hid (∀ i, i < E → 0 ≤ (if i = P then d else kn i) ∧ (if i = P then d else kn i) ≤ 255) := fun i hi => by
                have := Hn.out i hi
                have := Hd.out
                split <;> omega
              clear ka kb kc' hfs
              go_wp2
              go_roundw
              case rel => exact ⟨k + 1, fun i => if i = P then t else nx i, fun i => if i = P then d else kn i, by omega, by go_num, ⟨HX2.out.cell, HX2.out.free⟩, ⟨HN2.out.cell, HN2.out.free⟩, ⟨HF2.out.own⟩, Hx2, Hn2, HK10.out.drew⟩
              case measure => simp [intOf]; omega
            · have e : E = k := by omega
              subst e
              have c2 : wr.cell? ⟨G, 2, none⟩ = some (.slice aa (E + E) acp) := cell_of wr G 2 _ _ hB9
              have c3 : wr.cell? ⟨G, 3, none⟩ = some (.slice ka E kc) := cell_of wr G 3 _ _ hB9
              have z2 := free_of wr G 2 _ _ hB9
              have z3 := free_of wr G 3 _ _ hB9
              have k2 := Keep.setCell wr ⟨G, 2, none⟩ (.slice none 0 0)
              have k3 := Keep.setCell (wr.setCell ⟨G, 2, none⟩ (.slice none 0 0)) ⟨G, 3, none⟩ (.slice none 0 0)
              have kk : Keep (fun b => b = G) wr ((wr.setCell ⟨G, 2, none⟩ (.slice none 0 0)).setCell ⟨G, 3, none⟩ (.slice none 0 0)) := k2.trans k3 (fun _ q => .inl q)
              have hb2 := heap_set _ G 3 (.slice none 0 0) _ _ (heap_set wr G 2 (.slice none 0 0) _ _ hB9)
              have hszr := HK9.out.size
              have HL : Hid (Laid2 w ((wr.setCell ⟨G, 2, none⟩ (.slice none 0 0)).setCell ⟨G, 3, none⟩ (.slice none 0 0)) G n ga gc) := by
                refine ⟨E, la, lc, FB, NX, KN, pre src E, nx, kn, ⟨hb2, ?_, ?_, HX.out.keep (kk.block NX (by omega) (by show ¬ NX = G; omega)), HN.out.keep (kk.block KN (by omega) (by show ¬ KN = G; omega)), ?_, fun i _ => pre_mono src E i (i + 1) (by omega), fun i _ => pre_le src i E, Hx.out, Hn.out⟩, ?_, by omega, by omega, by omega, by omega, hE⟩
                · refine (VG8.out.keep HK9.out (fun b hb q => ?_)).keep kk (fun b hb q => ?_)
                  · have := lga b hb
                    exact own8 b (by omega) (by omega) (by omega) q
                  · have := lga b hb
                    subst q
                    exact VG8.out.off HB8.out (by decide) hb
                · exact (HRF8.out.keep (HK9.out.block FB (by omega) (own8 FB (by omega) (by omega) (by omega)))).keep (kk.block FB (by omega) (by show ¬ FB = G; omega))
                · have := kk.size
                  omega
                · refine (HKA8.out.trans HK9.out (fun b q => .inr ?_)).trans kk (fun _ q => .inl q)
                  rcases q with q | q | q
                  · omega
                  · omega
                  · have := Hfa.out b q; omega
              clear hb2 kk k2 k3 hB9
              go_wp2
              go_end0
              exact ⟨rfl, HL.out⟩

/-- Behind out for the first time. -/
def OutFirst (w w' : World) (G n : Nat) (ga : Option Addr) (gc u : Nat) (e : Ending) : Prop := ∃ E la lc FB NX KN first next kd, OutOf NX KN (first u) (first (u + 1)) e ∧ GL w' G n E la lc ga gc FB NX KN vnil first next kd ∧ Keep (fun b => b = G) w w' ∧ w.heap.size ≤ FB ∧ w.heap.size ≤ NX ∧ w.heap.size ≤ KN ∧ E ≤ 100000
set_option maxHeartbeats 4000000 in
set_option maxRecDepth 100000 in
/-- out, where the graph is not laid out. -/
theorem out_first (G n E : Nat) (la : Option Addr) (lc : Nat) (aa : Option Addr) (acp : Nat) (ka : Option Addr) (kc : Nat) (ga : Option Addr) (gc : Nat) (last src dst kd : Nat → Int) (u : Nat) (w : World) (h : GB w G n E la lc aa acp ka kc ga gc last src dst kd) (hu : u < n) (hn : n ≤ 5) (hE : E ≤ 100000) :
    Calls Ybaz.prog 128 #[.pointer (some ⟨G, 0, none⟩), .int .i64 (u : Int)] w fun e w' => OutFirst w w' G n ga gc u e := by
  have c5 : w.cell? ⟨G, 5, none⟩ = some (.slice none 0 0) := cell_of w G 5 _ _ h.blk
  have hnil := fun W (a : Option Addr) n' c' => Lib.run_eql_slice_nil (P := Ybaz.prog) W 95 21 a n' c' 0 0 Ybaz.underlying95
  have HL := fun _ : Unit => layOut2_any G n E la lc aa acp ka kc ga gc last src dst kd w h hn hE
  have u1 : (u : Int) < (n : Int) + 1 := by omega
  have u2 : (u : Int).toNat = u := by omega
  have u3 : ((u : Int) + 1).toNat = u + 1 := by omega
  have u4 : (u : Int) + 1 < (n : Int) + 1 := by omega
  have u5 : (0 : Int) ≤ (u : Int) + 1 := by omega
  have uw : IntKind.i64.wrap ((u : Int) + 1) = (u : Int) + 1 := by rw [IntKind.wrap_i64]; omega
  clear h
  go_enter Ybaz.func128, Ybaz.ntmps128
  go_upto_region 3 with (first
    | (go_at_call 192; refine (HL ()).mono ?_; clear HL; rintro e w2 ⟨rfl, E2, la2, lc2, FB, NX, KN, first, next, kd2, hgl, hk, hf, hx, hkn, _, hE2⟩))
  have HG : Hid _ := hgl
  have HK : Hid _ := hk
  clear hgl hk c5
  have c5 : w2.cell? ⟨G, 5, none⟩ = some (.slice (some ⟨FB, 0, none⟩) (n + 1) (n + 1)) := cell_of w2 G 5 _ _ HG.out.blk
  have c6 : w2.cell? ⟨G, 6, none⟩ = some (.slice (some ⟨NX, 0, none⟩) E2 E2) := cell_of w2 G 6 _ _ HG.out.blk
  have c7 : w2.cell? ⟨G, 7, none⟩ = some (.slice (some ⟨KN, 0, none⟩) E2 E2) := cell_of w2 G 7 _ _ HG.out.blk
  obtain ⟨A, HA⟩ : ∃ A, Hid (A = first u) := ⟨_, rfl⟩
  obtain ⟨B, HB⟩ : ∃ B, Hid (B = first (u + 1)) := ⟨_, rfl⟩
  have eA : w2.cell? ⟨FB, u, none⟩ = some (.int .i32 (A : Int)) := by rw [HA.out]; exact HG.out.rf.cell u (by omega)
  have eB : w2.cell? ⟨FB, u + 1, none⟩ = some (.int .i32 (B : Int)) := by rw [HB.out]; exact HG.out.rf.cell (u + 1) (by omega)
  have hAB : A ≤ B := by rw [HA.out, HB.out]; exact HG.out.mono u hu
  have hBE : B ≤ E2 := by rw [HB.out]; exact HG.out.top (u + 1) (by omega)
  have p1 : (A : Int) ≤ (B : Int) := by omega
  have p2 : (B : Int) ≤ (E2 : Int) := by omega
  have p3 : (A : Int).toNat = A := by omega
  have p4 : (B : Int).toNat = B := by omega
  go_quiet (fail)
  go_upto_region 4 with fail
  go_quiet (fail)
  by_cases hAE : A = E2
  · subst hAE
    go_wp2
    go_ret2
    exact ⟨_, la2, lc2, FB, NX, KN, first, next, kd2, by rw [← HA.out, ← HB.out]; exact ⟨_, _, _, _, rfl, fun h => by omega⟩, HG.out.keep (F := fun _ => False) (by first | exact (Keep.refl (fun _ => False) _).drewN _ | exact ((Keep.refl (fun _ => False) _).drewN _).drewN _) id (fun _ _ q => q) id id id, (by first | exact HK.out.drewN _ | exact (HK.out.drewN _).drewN _), hf, hx, hkn, hE2⟩
  · have hAE2 : (A : Int) < (E2 : Int) := by omega
    go_wp2
    go_ret2
    exact ⟨_, la2, lc2, FB, NX, KN, first, next, kd2, by rw [← HA.out, ← HB.out]; exact ⟨_, _, _, _, rfl, fun _ => ⟨rfl, rfl⟩⟩, HG.out.keep (F := fun _ => False) (by first | exact (Keep.refl (fun _ => False) _).drewN _ | exact ((Keep.refl (fun _ => False) _).drewN _).drewN _) id (fun _ _ q => q) id id id, (by first | exact HK.out.drewN _ | exact (HK.out.drewN _).drewN _), hf, hx, hkn, hE2⟩
end Go.Proofs.YbulkdvbsGreat

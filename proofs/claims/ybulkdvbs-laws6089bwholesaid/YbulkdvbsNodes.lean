import Derived.Test.YbulkdvbsEdge
import Derived.Test.YbulkdvbsBits
import Derived.Deep.CutBlock
import Derived.RegionTactic
import Derived.BigRegion
namespace Go.Proofs.Ybulkdvbs
open Go.RowKit

theorem shl_u64 (k : Nat) (hk : k < 64) : IntKind.u64.wrap (1 * 2 ^ k) = ((2 ^ k : Nat) : Int) := by
  have h : (2 ^ k : Nat) < 2 ^ 64 := Nat.pow_lt_pow_right (by omega) hk
  have e : (1 * 2 ^ k : Int) = ((2 ^ k : Nat) : Int) := by simp
  rw [e]
  generalize 2 ^ k = m at *
  unfold IntKind.wrap
  simp [IntKind.bits, IntKind.signed]
  omega

set_option maxHeartbeats 2000000 in
set_option maxRecDepth 100000 in
theorem nodes_any (b : Bool) (n m t0 : Nat) (base G : Nat) (N : Int) (L A : List Int) (K : Nat) (vl va vk vg : Value) (w : World) (h : Gr w base G N L A K (gw n t0) vl va vk vg) (hL : L.length = t0) (ht : t0 + m ≤ 100000)
    (hb : ∀ t, t0 ≤ t → t < t0 + m → (b = true ↔ n ≤ t)) :
    Calls Yba.prog 10 #[.pointer (some ⟨G, 0, none⟩), .int .i64 m, .bool b] w fun e w' => e = .returned (.int .i64 t0) ∧
      ∃ vl' vg', Gr w' base G N (L ++ List.replicate m (-1)) A K (gw n (t0 + m)) vl' va vk vg' ∧ Step (foot G vl va vk vg) (foot G vl' va vk vg') w w' := by
  obtain ⟨al, cl, rfl⟩ := row_form h.rl
  have c1 := h.c1
  have b1 : ¬ (2147483647 : Int) < (t0 : Int) + (m : Int) := by omega
  have b2 : (t0 : Int) + (m : Int) ≤ 100000 := by omega
  have HL : Hid (L.length = t0) := hL
  rw [hL] at c1
  clear hL
  go_enter Yba.func10, Yba.ntmps10
  go_wp2_with fail
  go_loopw [8] (fun i wr => ∃ (t : Nat) (vl' vg' : Value), t0 ≤ t ∧ t ≤ t0 + m ∧ i = .int .i64 t ∧ Gr wr base G N (L ++ List.replicate (t - t0) (-1)) A K (gw n t) vl' va vk vg' ∧ Step (foot G (.slice al L.length cl) va vk vg) (foot G vl' va vk vg') w wr) (fun i _ => t0 + m - (intOf i).toNat)
  case atStart => exact ⟨t0, _, _, Nat.le_refl _, by omega, rfl, by simpa using h, Step.refl _ _⟩
  case round =>
    obtain ⟨t, vl', vg', ht1, ht2, rfl, hg, hs⟩ := hrel
    by_cases hlt : t < t0 + m
    · have d1 := hg.c1
      obtain ⟨i21, hi, hz, hs1, hbb⟩ := inf21
      have hlen : (L ++ List.replicate (t - t0) (-1 : Int)).length = t := by have := HL.out; simp; omega
      have hbase : base ≤ (wr.alloc (Obj.cells #[Value.int .i32 (-1)] 21)).heap.size := by
        have := hg.low; have := hg.lt; simp; omega
      generalize hL1 : L ++ List.replicate (t - t0) (-1 : Int) = L1 at *
      have HL1 : Hid (L ++ List.replicate (t - t0) (-1 : Int) = L1) := hL1
      have HLen : Hid (L1.length = t) := hlen
      clear hL1 hlen
      go_upto_if 38 with (at_builtin; (refine wpList_append_lies (wr.alloc (Obj.cells #[Value.int .i32 (-1)] 21)) rfl _ _ 35 rfl base 21 i21 _ 1 4 Yba.underlying35 hi hz hs1 hbb rfl (by omega) vl' L1.length (L1.map (Value.int .i32)) rfl (hg.rl.alloc _) ⟨wr.heap.size, 0, none⟩ 1 1 [.int .i32 (-1)] rfl rfl ?news ?one (by omega) ?h63 ?bytes hbase (wr.heap.size + 1) (by simp) ?_))
      case news => exact World.news_of_block (cs := #[Value.int .i32 (-1)]) (heap_alloc_new wr _)
      case one => intro y hy; simp at hy; subst hy; rfl
      case h63 => rw [HLen.out]; unfold maxLen; omega
      case bytes => rw [HLen.out]; omega
      intro g cap w2 hown hgrow hat hlt2
      have hat' : vl'.ownBlock = some g ∨ g = (wr.alloc (Obj.cells #[Value.int .i32 (-1)] 21)).heap.size := by simpa using hat
      have h2 := (hg.alloc (Obj.cells #[Value.int .i32 (-1)] 21)).appL [-1] hown hgrow hat'
      have hGlt : G < (wr.alloc (Obj.cells #[Value.int .i32 (-1)] 21)).heap.size := by have := hg.lt; simp; omega
      have e1 : w2.cell? ⟨G, 1, none⟩ = some vl' := by
        rw [hgrow.cell_far ⟨G, 1, none⟩ hGlt (fun q => hg.ol q.symm)]; exact (hg.alloc _).c1
      have ef : w2.frozen? ⟨G, 1, none⟩ = false := by
        rw [hgrow.frozen_far ⟨G, 1, none⟩ hGlt (fun q => hg.ol q.symm)]; exact (hg.alloc _).f 1
      have s2 : Step (foot G (.slice al L.length cl) va vk vg) (foot G (.slice (some ⟨g, 0, none⟩) (L1.length + 1) cap) va vk vg') w (w2.setCell ⟨G, 1, none⟩ (.slice (some ⟨g, 0, none⟩) (L1.length + 1) cap)) := by
        have tt := (((hs.alloc (Obj.cells #[Value.int .i32 (-1)] 21)).grown hgrow (fun k hk => .inr (.inl hk))).setCell ⟨G, 1, none⟩ (.slice (some ⟨g, 0, none⟩) (L1.length + 1) cap) (.inl rfl))
        refine tt.to fun k hk => ?_
        rcases hk with hk | hk | hk
        · exact .inl (.inl hk)
        · have e : g = k := by simpa [Value.ownBlock] using hk
          subst e
          rcases hat with h | h
          · exact .inl (.inr (.inl h))
          · have := hs.size; exact .inr (by omega)
        · exact .inl (.inr (.inr hk))
      clear hgrow hown hbase hi hz hs1 hbb i21 d1 hg hs
      go_upto_if 38 with fail
      generalize hw3 : w2.setCell ⟨G, 1, none⟩ (Value.slice (some ⟨g, 0, none⟩) (L1.length + 1) cap) = w3 at *
      generalize hvl : Value.slice (some ⟨g, 0, none⟩) (L1.length + [-1].length) cap = vl3 at *
      clear hw3 hvl e1 ef hat hat' hGlt
      have d4 := h2.c4
      have f4 := h2.f 4
      go_cut [] from 20 to 61 (fun wc => ∃ vg2, Gr wc base G N (L1 ++ [-1]) A K (gw1 n t) vl3 va vk vg2 ∧ Step (foot G (.slice al L.length cl) va vk vg) (foot G vl3 va vk vg2) w wc)
      case first =>
        by_cases h64 : t % 64 = 0
        · have h64' : ((t : Int) % 64 == 0) = true := by simp; omega
          have HG : Hid (gw1 n t = gw n t ++ [0]) := by show gw1 n t = _; unfold gw1; rw [if_pos h64]
          have HT : Hid ((gw n t).length ≤ 2000) := by show (gw n t).length ≤ 2000; rw [gw_len]; omega
          clear h64
          obtain ⟨i42, hi, hz, hs1, hbb⟩ := inf42
          have hbase : base ≤ (w3.alloc (Obj.cells #[Value.int .u64 0] 42)).heap.size := by
            have := h2.low; have := h2.lt; simp; omega
          go_wp2_with (at_builtin; (refine wpList_append_lies (w3.alloc (Obj.cells #[Value.int .u64 0] 42)) rfl _ _ 38 rfl base 42 i42 _ 1 8 Yba.underlying38 hi hz hs1 hbb rfl (by omega) vg' (gw n t).length ((gw n t).map (Value.int .u64)) rfl (h2.rg.alloc _) ⟨w3.heap.size, 0, none⟩ 1 1 [.int .u64 0] rfl rfl ?news ?one (by omega) ?h63 ?bytes hbase (w3.heap.size + 1) (by simp) ?_))
          case news => exact World.news_of_block (cs := #[Value.int .u64 0]) (heap_alloc_new w3 _)
          case one => intro y hy; simp at hy; subst hy; rfl
          case h63 => have := HT.out; unfold maxLen; omega
          case bytes => have := HT.out; omega
          intro g4 cap4 w4 hown hgrow hat hlt4
          have hat' : vg'.ownBlock = some g4 ∨ g4 = (w3.alloc (Obj.cells #[Value.int .u64 0] 42)).heap.size := by simpa using hat
          have h4 := (h2.alloc (Obj.cells #[Value.int .u64 0] 42)).appG [0] hown hgrow hat'
          have hGlt : G < (w3.alloc (Obj.cells #[Value.int .u64 0] 42)).heap.size := by have := h2.lt; simp; omega
          have e4 : w4.cell? ⟨G, 4, none⟩ = some vg' := by
            rw [hgrow.cell_far ⟨G, 4, none⟩ hGlt (fun q => h2.og q.symm)]; exact (h2.alloc _).c4
          have ef : w4.frozen? ⟨G, 4, none⟩ = false := by
            rw [hgrow.frozen_far ⟨G, 4, none⟩ hGlt (fun q => h2.og q.symm)]; exact (h2.alloc _).f 4
          have s4 : Step (foot G (.slice al L.length cl) va vk vg) (foot G vl3 va vk (.slice (some ⟨g4, 0, none⟩) ((gw n t).length + 1) cap4)) w (w4.setCell ⟨G, 4, none⟩ (.slice (some ⟨g4, 0, none⟩) ((gw n t).length + 1) cap4)) := by
            have tt := (((s2.alloc (Obj.cells #[Value.int .u64 0] 42)).grown hgrow (fun k hk => .inr (.inr (.inr (.inr hk))))).setCell ⟨G, 4, none⟩ (.slice (some ⟨g4, 0, none⟩) ((gw n t).length + 1) cap4) (.inl rfl))
            refine tt.to fun k hk => ?_
            rcases hk with hk | hk | hk | hk | hk
            · exact .inl (.inl hk)
            · exact .inl (.inr (.inl hk))
            · exact .inl (.inr (.inr (.inl hk)))
            · exact .inl (.inr (.inr (.inr (.inl hk))))
            · have e : g4 = k := by simpa [Value.ownBlock] using hk
              subst e
              rcases hat with h | h
              · exact .inl (.inr (.inr (.inr (.inr h))))
              · have := s2.size; exact .inr (by omega)
          have HR : Hid (∃ vg2, Gr (w4.setCell ⟨G, 4, none⟩ (.slice (some ⟨g4, 0, none⟩) ((gw n t).length + 1) cap4)) base G N (L1 ++ [-1]) A K (gw1 n t) vl3 va vk vg2 ∧ Step (foot G (.slice al L.length cl) va vk vg) (foot G vl3 va vk vg2) w (w4.setCell ⟨G, 4, none⟩ (.slice (some ⟨g4, 0, none⟩) ((gw n t).length + 1) cap4))) := by
            refine ⟨_, ?_, s4⟩
            rw [HG.out]; exact h4
          clear h2 h4 s2 s4 hgrow hown
          go_wp2
          go_meet
          case rel => exact HR.out
        · have h64' : ((t : Int) % 64 == 0) = false := by simp; omega
          have HG : Hid (gw1 n t = gw n t) := by show gw1 n t = _; unfold gw1; rw [if_neg h64]
          clear h64
          go_wp2
          go_meet
          case rel => exact ⟨vg', by rw [HG.out]; exact h2, s2⟩
      case rest =>
        obtain ⟨vg2, h5, s5⟩ := hcut
        clear h2 s2 d4 f4
        have HB := hb t ht1 hlt
        cases b with
        | false =>
          have HG : Hid (gw n (t + 1) = gw1 n t) := gw_off n t (by have := mt HB.2 (by simp); omega)
          clear HB
          go_wp2
          go_roundw
          case rel =>
            refine ⟨t + 1, _, _, by omega, by omega, by go_num, ?_, s5⟩
            have e : L ++ List.replicate (t + 1 - t0) (-1 : Int) = L1 ++ [-1] := by
              rw [← HL1.out, List.append_assoc, ← List.replicate_succ', show t + 1 - t0 = t - t0 + 1 by omega]
            rw [e, HG.out]; exact h5
          case measure => simp [intOf]; omega
        | true =>
          have hnt : n ≤ t := HB.1 rfl
          have HG : Hid (gw n (t + 1) = (gw1 n t).set (t / 64) ((wd n t (t / 64) ||| 2 ^ (t % 64) : Nat) : Int)) := gw_on n t hnt
          clear HB
          have hlen : (gw1 n t).length = (t + 1 + 63) / 64 := gw1_len n t
          obtain ⟨gg, cg, rfl, _, _⟩ := h5.rg.form (by rw [hlen]; omega)
          rw [hlen] at h5 s5
          have c4 := h5.c4
          obtain ⟨j, hj⟩ : ∃ j : Nat, j = t / 64 := ⟨_, rfl⟩
          obtain ⟨k, hk⟩ : ∃ k : Nat, k = t % 64 := ⟨_, rfl⟩
          obtain ⟨len, hlen2⟩ : ∃ len : Nat, len = (t + 1 + 63) / 64 := ⟨_, rfl⟩
          rw [← hj, ← hk] at HG
          rw [← hlen2] at h5 s5 c4
          have h6 : wc.ownsRow base 42 1 (.slice (some ⟨gg, 0, none⟩) len cg) len ((gw1 n t).map (Value.int .u64)) := by have := h5.rg; rw [hlen, ← hlen2] at this; exact this
          have ec : wc.cell? ⟨gg, j, none⟩ = some (.int .u64 (wd n t j : Int)) := row_cell h6 j _ (by rw [List.getElem?_map, gw1_at n t j (by omega)]; rfl)
          have ef : wc.frozen? ⟨gg, j, none⟩ = false := h6.frozenAt _
          have q1 : (t : Int).tdiv 64 = (j : Int) := by rw [Int.tdiv_eq_ediv_of_nonneg (by omega)]; omega
          have q2 : (t : Int).tmod 64 = (k : Int) := by rw [Int.tmod_eq_emod_of_nonneg (by omega)]; omega
          have q3 : (t : Int) / 64 = (j : Int) := by omega
          have q4 : (t : Int) % 64 = (k : Int) := by omega
          have q5 : IntKind.i64.wrap (j : Int) = (j : Int) := by rw [IntKind.wrap_i64]; omega
          have i0 : (0 : Int) ≤ (j : Int) := by omega
          have i1 : (j : Int) < (len : Int) := by omega
          have i2 : (0 : Int) ≤ (k : Int) := by omega
          have i3 : (k : Int) ≤ 64 := by omega
          have i4 : ¬ (k : Int) < 0 := by omega
          have hne : gg ≠ G := fun e => h5.og (by rw [← e]; rfl)
          have hsh : IntKind.u64.wrap (2 ^ k) = ((2 ^ k : Nat) : Int) := by have := shl_u64 k (by omega); simpa using this
          have HO : Hid (bits .or .u64 (wd n t j : Int) (2 ^ k) = ((wd n t j ||| 2 ^ k : Nat) : Int)) := by
            have e : ((2 ^ k : Nat) : Int) = (2 : Int) ^ k := by simp
            have := or_u64 (wd n t j) (2 ^ k) (wd_lt _ _ _) (Nat.pow_lt_pow_right (by omega) (by omega))
            rw [e] at this; exact this
          clear hlen hj hk hlen2 h6
          go_wp2_with fail
          go_region
          generalize hX : (wc.setCell ⟨gg, j, none⟩ (Value.int .u64 (bits .or .u64 (wd n t j : Int) (2 ^ k)))).drew = wx
          have h7 : Gr wx base G N (L1 ++ [-1]) A K (gw n (t + 1)) vl3 va vk (.slice (some ⟨gg, 0, none⟩) len cg) := by
            rw [← hX, HG.out, HO.out]; exact (h5.setGath j _).drew
          have s7 : Step (foot G (.slice al L.length cl) va vk vg) (foot G vl3 va vk (.slice (some ⟨gg, 0, none⟩) len cg)) w wx := by
            rw [← hX]; exact (s5.setCell ⟨gg, j, none⟩ _ (.inr (.inr (.inr (.inr rfl))))).drew
          clear hX h5 s5 c4 ec ef
          go_wp2
          go_roundw
          case rel =>
            refine ⟨t + 1, _, _, by omega, by omega, by go_num, ?_, s7⟩
            have e : L ++ List.replicate (t + 1 - t0) (-1 : Int) = L1 ++ [-1] := by
              rw [← HL1.out, List.append_assoc, ← List.replicate_succ', show t + 1 - t0 = t - t0 + 1 by omega]
            rw [e]; exact h7
          case measure => simp [intOf]; omega
    · have hkn : t = t0 + m := by omega
      subst hkn
      go_wp2
      go_ret
      refine ⟨rfl, vl', vg', ?_, hs⟩
      have e : t0 + m - t0 = m := by omega
      rw [e] at hg; exact hg

end Go.Proofs.Ybulkdvbs

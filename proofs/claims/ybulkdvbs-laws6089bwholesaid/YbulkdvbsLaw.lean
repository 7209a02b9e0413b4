import Derived.Test.YbulkdvbsSt
import Derived.Deep.CutBlock
namespace Go.Proofs.Ybulkdvbs
open Go.RowKit
attribute [local go_sem ↓] exec_make23 exec_make35
attribute [local go_sem] run_mk23 run_mk35

set_option maxHeartbeats 4000000 in
set_option maxRecDepth 100000 in
theorem law_any (nn : Int) (a1 : Option Addr) (m cap b off : Nat) (rv : Nat → Nat) (p : Int) (w : World) (hnn : 0 ≤ nn ∧ nn ≤ 255) (hm : m ≤ 65536) (ha : 0 < m → a1 = some ⟨b, off, none⟩)
    (hraw : ∀ j, j < m → w.cell? ⟨b, off + j, none⟩ = some (.int .u16 (rv j : Int))) (hrv : ∀ j, rv j ≤ 65535) (hp : -9223372036854775808 ≤ p ∧ p ≤ 9223372036854775807) :
    Calls Yba.prog 3 #[.int .u8 nn, .slice a1 m cap, .int .i64 p] w fun e w' => e = .returned (.bool true) ∧ Below w.heap.size w w' := by
  obtain ⟨n, hn⟩ : ∃ n : Nat, (n : Int) = if nn = 0 ∧ 0 < m then 1 else nn := by
    refine ⟨(if nn = 0 ∧ 0 < m then (1 : Int) else nn).toNat, ?_⟩
    split <;> omega
  have hn0 : 0 < m → 0 < n := fun h => by
    split at hn <;> omega
  have hn1 : n ≤ 255 := by
    split at hn <;> omega
  have HN : Hid ((n : Int) = if nn = 0 ∧ 0 < m then 1 else nn) := hn
  clear hn
  have hm' : ¬ (65536 : Int) < (m : Int) := by omega
  have hbw : 0 < m → b < w.heap.size := fun h => World.block_lt_of_cell? w _ (hraw 0 h)
  obtain ⟨q0, q1⟩ := hnn
  go_enter Yba.func3, Yba.ntmps3
  go_upto_region 4 with fail
  go_cut [41] from 33 to 46 (fun c wc => w = wc ∧ c = .bool (decide (nn = 0 ∧ 0 < m)))
  case first =>
    by_cases h0 : nn = 0
    · subst h0
      go_wp2
      all_goals (go_meet; case rel => exact ⟨rfl, by simp⟩)
    · have h0' : (nn == 0) = false := by simpa using h0
      go_wp2
      go_meet
      case rel => exact ⟨rfl, by simp [h0]⟩
  case rest =>
  obtain ⟨rfl, rfl⟩ := hcut
  obtain ⟨c, hc⟩ : ∃ c : Bool, c = decide (nn = 0 ∧ 0 < m) := ⟨_, rfl⟩
  have HN3 : Hid ((n : Int) = if c = true then 1 else nn) := by
    have := HN.out
    by_cases h : nn = 0 ∧ 0 < m
    · rw [if_pos h] at this; rw [hc, decide_eq_true h]; exact this
    · rw [if_neg h] at this; rw [hc, decide_eq_false h]; exact this
  rw [← hc]
  clear hc HN
  go_upto_if 41 with fail
  go_cut [7] from 33 to 46 (fun c w2 => w = w2 ∧ c = .int .i64 (n : Int))
  case first =>
    cases c
    · have HN2 : Hid ((n : Int) = nn) := HN3.out
      go_wp2
      go_meet
      case rel => exact ⟨rfl, by rw [HN2.out]⟩
    · have HN2 : Hid ((n : Int) = 1) := HN3.out
      go_wp2
      go_meet
      case rel => exact ⟨rfl, by rw [HN2.out]⟩
  case rest =>
  obtain ⟨rfl, rfl⟩ := hcut
  have hm6 : m ≤ 1000000 := by omega
  go_wp2
  generalize hW0 : w.heap.size = W0
  have hL0 : Below W0 w (w.alloc (.cells (zrow (.int .i64 0) m) 3)) := (Below.refl _ _).alloc (by omega) _
  have hblk : (w.alloc (.cells (zrow (.int .i64 0) m) 3)).heap[W0]? = some (.cells (zrow (.int .i64 0) m) 3 (0, 0)) := by rw [← hW0]; exact heap_alloc_new w _
  go_loopw [47] (fun i wr => ∃ (k : Nat) (C : Array Value), k ≤ m ∧ i = .int .i64 k ∧ Below W0 w wr ∧ wr.heap[W0]? = some (.cells C 3 (0, 0)) ∧ C.size = m ∧ (∀ j, j < k → C[j]? = some (.int .i64 ((rv j % n : Nat) : Int))) ∧ wr.heap.size = W0 + 1) (fun i _ => m - (intOf i).toNat)
  case atStart => exact ⟨0, _, Nat.zero_le _, rfl, hL0, hblk, zrow_size _ _, fun j hj => by omega, by simp [← hW0]⟩
  case round =>
    obtain ⟨k, C, hk, rfl, hB, hC, hCs, HC0, hsz⟩ := hrel
    have HC : Hid (∀ j, j < k → C[j]? = some (.int .i64 ((rv j % n : Nat) : Int))) := HC0
    have HS : Hid (wr.heap.size = W0 + 1) := hsz
    have HCs : Hid (C.size = m) := hCs
    have HCb : Hid (wr.heap[W0]? = some (.cells C 3 (0, 0))) := hC
    clear HC0 hsz hCs hC hL0 hblk
    by_cases hlt : k < m
    · obtain rfl := ha (by omega)
      have hbW : b < W0 := by have := hbw (by omega); omega
      have e0 : wr.cell? ⟨b, off + k, none⟩ = some (.int .u16 (rv k : Int)) := by rw [hB.cell (p := ⟨b, off + k, none⟩) hbW]; exact hraw k hlt
      have hn0' : 0 < n := hn0 (by omega)
      have e1 : wr.cell? ⟨W0, k, none⟩ = some (C.getD k undef) := by
        rw [cell_of_row wr W0 k C 3 _ HCb.out]
        have := HCs.out
        simp [this, hlt]
      have ef : wr.frozen? ⟨W0, k, none⟩ = false := by simp [World.frozen?, HCb.out]
      have hnz : ¬ (n : Int) = 0 := by omega
      have hrk := hrv k
      have hrem : (rv k : Int).tmod (n : Int) = ((rv k % n : Nat) : Int) := by rw [Int.tmod_eq_emod_of_nonneg (by omega)]; simp
      generalize hX : ((rv k % n : Nat) : Int) = X at *
      have hX1 : IntKind.i64.wrap X = X := by rw [IntKind.wrap_i64]; have : rv k % n < n := Nat.mod_lt _ hn0'; omega
      clear hraw hbw
      go_wp2
      go_roundw
      case rel =>
        refine ⟨k + 1, C.setIfInBounds k (.int .i64 X), by omega, by go_num, hB.setCell (p := ⟨W0, k, none⟩) (Nat.le_refl _) _, heap_setCell_cells _ _ _ _ _ _ HCb.out, by simp [HCs.out], fun j hj => ?_, by simpa [World.setCell] using HS.out⟩
        by_cases e : j = k
        · subst e; rw [hX]; have := HCs.out; simp [this, hlt]
        · rw [Array.getElem?_setIfInBounds_ne (by omega)]; exact HC.out j (by omega)
      case measure => simp [intOf]; omega
    · have hkm : k = m := by omega
      subst hkm
      obtain ⟨ws, hws⟩ : ∃ ws : Nat → Nat, ∀ j, ws j = rv j % n := ⟨_, fun _ => rfl⟩
      have hrow : ∀ i, i < k → wr.cell? ⟨W0, i, none⟩ = some (.int .i64 (ws i : Int)) := fun i hi => by
        rw [cell_of_row wr W0 i C 3 _ HCb.out, HC.out i hi, hws]
      have hw : ∀ i, i < k → ws i < n := fun i hi => by rw [hws]; exact Nat.mod_lt _ (hn0 (by omega))
      have hWlt : W0 < wr.heap.size := by have := HS.out; omega
      clear HC HS HCs HCb hws hraw hrv ha hbw hn0
      obtain ⟨bl, hbl⟩ : ∃ bl : Bool, decide (p < 0) = bl := ⟨_, rfl⟩
      have HBL : Hid (decide (p < 0) = bl) := hbl
      clear hbl
      go_wp2_with (first
        | (go_at_call 4; refine (clone_any W0 k k ws wr hm hrow).mono ?_; rintro e w1 ⟨kv, rfl, hkv, hb1⟩; obtain ⟨ak, ck, rfl⟩ := row_form hkv)
        | (go_at_call 5; refine (graph_new n W0 (by omega) _ ?_).mono ?_; (exact Nat.le_of_lt (Nat.lt_of_lt_of_le hWlt hb1.size)); rintro e w2 ⟨rfl, vl, vg, hg2, hs2⟩)
        | (go_at_call 6; refine (runs_new W0 k k _).mono ?_; rintro e w3 ⟨rfl, rfl⟩))
      obtain ⟨tot, A, K, q, hE, hq1, hq2, hch⟩ := chain_st w w1 w2 _ wr n k W0 p ws _ vl vg hm hn1 hw hB hWlt hrow hkv hb1 hg2 hs2 rfl
      have hWw : W0 < w2.heap.size := Nat.lt_of_lt_of_le hWlt (Nat.le_trans hb1.size hs2.size)
      have HB0 : Hid (Below W0 w w2) := (hB.trans (hb1.mono (Nat.le_of_lt hWlt))).trans ⟨hs2.os, hs2.tape, hs2.output, hs2.size, fun j hj => hs2.block j (Nat.lt_trans hj (Nat.lt_of_lt_of_le hWlt hb1.size)) (fun h => h)⟩
      refine hch.mono ?_
      rintro e w4 ⟨rfl, vl', va', vk', vg', hst⟩
      generalize w2.heap.size = R at *
      generalize w1.heap.size = G at *
      have HQ : Hid ((bl = true → q = n ∧ tot = n + k ∧ A = (stE n k ws k).2.1) ∧ (bl = false → q = p ∧ tot = n ∧ A = [])) := by
        have := HBL.out
        by_cases hp : p < 0
        · rw [decide_eq_true hp] at this; subst this; exact ⟨fun _ => hq1 hp, fun h => by cases h⟩
        · rw [decide_eq_false hp] at this; subst this; exact ⟨(fun h => by cases h), fun _ => hq2 hp⟩
      clear hq1 hq2 hch hrow hkv hb1 hg2 hs2 hB HB0
      have hn3 : (n : Int) ≤ 255 := by omega
      have hk3 : (k : Int) ≤ 65536 := by omega
      go_upto_if 79 with fail
      go_cut [16, 17, 18] from 75 to 83 (fun s16 s17 s18 wx => w4 = wx ∧ s16 = .bool bl ∧ s17 = .int .i64 q ∧ s18 = .int .i64 (tot : Int))
      case first =>
        clear hst
        cases bl with
        | true =>
          have E1 : Hid (q = n) := (HQ.out.1 rfl).1
          have E2 : Hid (tot = n + k) := (HQ.out.1 rfl).2.1
          have hp1 : p < 0 := of_decide_eq_true HBL.out
          go_wp2
          go_meet
          case rel => exact ⟨rfl, by simp, by rw [E1.out], by rw [E2.out]; go_num⟩
        | false =>
          have E1 : Hid (q = p) := (HQ.out.2 rfl).1
          have E2 : Hid (tot = n) := (HQ.out.2 rfl).2.1
          have hp1 : ¬ p < 0 := of_decide_eq_false HBL.out
          go_wp2
          go_meet
          case rel => exact ⟨rfl, by simp; omega, by rw [E1.out], by rw [E2.out]⟩
      case rest =>
      obtain ⟨rfl, rfl, rfl, rfl⟩ := hcut
      have r1 : w4.cell? ⟨R, 1, none⟩ = some (.int .i64 (-1)) := hst.rn.cell 1 _ rfl
      have r2 : w4.cell? ⟨R, 2, none⟩ = some (.int .i64 q) := hst.rn.cell 2 _ rfl
      have r3 : w4.cell? ⟨R, 3, none⟩ = some (.pointer none) := hst.rn.cell 3 _ rfl
      have r4 : w4.cell? ⟨R, 4, none⟩ = some (.pointer none) := hst.rn.cell 4 _ rfl
      have r0 : w4.cell? ⟨R, 0, none⟩ = some (.slice (some ⟨W0, 0, none⟩) k k) := hst.rn.cell 0 _ rfl
      have F1 : RowAt w4 (some ⟨W0, 0, none⟩) k .i64 (fun i => (ws i : Int)) := fun _ => ⟨W0, rfl, fun i hi => hst.rn.row i hi⟩
      have F2 : RowAt w4 ak k .i64 (fun i => (ws i : Int)) := row_atI hst.keep
      go_upto_if 129 with (first | (go_at_call 8; refine (equal_int' _ _ k _ _ (fun i => (ws i : Int)) _ (by omega) ?_ ?_).mono ?_; (first | exact F1 | exact F1.drewN _); (first | exact F2 | exact F2.drewN _); rintro e w5 ⟨rfl, qq, rfl⟩))
      generalize hw5 : World.drewN _ _ = w5
      have hb5 : Below w4.heap.size w4 w5 := by rw [← hw5]; exact ⟨rfl, rfl, rfl, Nat.le_refl _, fun _ _ => rfl⟩
      have hst5 : St w W0 n k tot A K q ws W0 R G (.slice ak k ck) vl' va' vk' vg' w5 := hst.keepW hb5 (Nat.le_trans hst.gr.low (Nat.le_of_lt hst.gr.lt)) (Nat.lt_of_le_of_lt hst.gr.low hst.gr.lt)
      clear hst F1 F2 r0 r1 r2 r3 r4 hb5 hw5
      have hW5 : W0 < w5.heap.size := Nat.lt_of_le_of_lt hst5.gr.low hst5.gr.lt
      obtain ⟨H5, hH5⟩ : ∃ H5, H5 = w5.heap.size := ⟨_, rfl⟩
      have HH5 : Hid (H5 = w5.heap.size) := hH5
      have hW5' : W0 < H5 := by omega
      go_cut [19] from 129 to 160 (fun s19 wx => wx.ownsRow H5 21 1 s19 A.length (A.map (Value.int .i32)) ∧ Below H5 w5 wx)
      case first =>
        have hn0 : 0 < k → 0 < n := fun h => by have := hw 0 h; omega
        cases bl with
        | false =>
          have EA : Hid (A = []) := (HQ.out.2 rfl).2.2
          clear hst5 hH5
          go_wp2
          go_meet
          case rel => exact ⟨by rw [EA.out]; exact World.ownsRow_nil _ _ _ _, Below.refl _ _⟩
        | true =>
          have EA : Hid (A = (stE n k ws k).2.1) := (HQ.out.1 rfl).2.2
          have FK := hst5.keep
          clear hst5
          go_wp2
          go_loopw [19, 20] (fun v i wy => ∃ bb : Nat, bb ≤ k ∧ i = .int .i64 bb ∧ wy.ownsRow H5 21 1 v (stE n k ws bb).2.1.length ((stE n k ws bb).2.1.map (Value.int .i32)) ∧ Below H5 w5 wy ∧ H5 ≤ wy.heap.size) (fun _ i _ => k - (intOf i).toNat)
          case atStart => exact ⟨0, Nat.zero_le _, rfl, World.ownsRow_nil _ _ _ _, Below.refl _ _, by omega⟩
          case round =>
            clear hH5
            obtain ⟨bb, hbb, rfl, hrow, hbel, hH⟩ := hrel
            by_cases hlt : bb < k
            · obtain ⟨gk, cgk, hak, _, _⟩ := FK.form (by omega)
              simp at hak
              obtain ⟨rfl, rfl⟩ := hak
              have hgk : gk < H5 := by have := (FK.lt gk rfl).2; have := HH5.out; omega
              have e0 : wr.cell? ⟨gk, bb, none⟩ = some (.int .i64 (ws bb : Int)) := by
                rw [hbel.cell (p := ⟨gk, bb, none⟩) hgk]; exact row_cell FK bb _ (rowI_at k ws bb hlt)
              have hwb := hw bb hlt
              have hc := chain_all n k ws hw bb hbb
              have HE : Hid (stE n k ws (bb + 1) = if bb = 0 then ((stE n k ws bb).1.set (ws bb) ((stE n k ws bb).2.2 : Int), (stE n k ws bb).2.1 ++ [(ws bb : Int), ((n + bb : Nat) : Int)], (stE n k ws bb).2.2 + 1)
                else (((stE n k ws bb).1.set (ws bb) ((stE n k ws bb).2.2 : Int)).set (n + bb - 1) (((stE n k ws bb).2.2 + 1 : Nat) : Int), ((stE n k ws bb).2.1 ++ [(ws bb : Int), ((n + bb : Nat) : Int)]) ++ [((n + bb - 1 : Nat) : Int), ((n + bb : Nat) : Int)], (stE n k ws bb).2.2 + 1 + 1)) := rfl
              have HS : Hid ((stE n k ws bb).2.1.length ≤ 300000) := by have h1 := hc.two; have h2 := hc.few; show _ ≤ _; omega
              clear hc FK
              generalize stE n k ws bb = st at *
              obtain ⟨L3, A3, K3⟩ := st
              simp only at hrow HE HS
              have w1 : IntKind.i32.wrap (ws bb : Int) = (ws bb : Int) := wrap32_small _ (by omega) (by omega)
              have w2 : IntKind.i32.wrap ((n : Int) + (bb : Int)) = (n : Int) + (bb : Int) := wrap32_small _ (by omega) (by omega)
              have en : ((n + bb : Nat) : Int) = (n : Int) + (bb : Int) := by omega
              have k0 : (0 : Int) ≤ (bb : Int) := by omega
              have k1 : (bb : Int) < (k : Int) := by omega
              obtain ⟨i21, hi, hz, hs, hb⟩ := inf21
              have HE1 := HE.out
              rw [en] at HE1
              have HE2 : Hid _ := HE1
              clear HE HE1 en
              go_wp2_with (at_builtin; (refine wpList_append_lies (wr.alloc (Obj.cells #[Value.int .i32 (ws bb : Int), Value.int .i32 ((n : Int) + (bb : Int))] 21)) rfl _ _ 35 rfl H5 21 i21 _ 1 4 Yba.underlying35 hi hz hs hb rfl (by omega) u19 A3.length (A3.map (Value.int .i32)) rfl (hrow.alloc _) ⟨wr.heap.size, 0, none⟩ 2 2 [.int .i32 (ws bb : Int), .int .i32 ((n : Int) + (bb : Int))] rfl rfl ?news ?one (by omega) ?h63 ?bytes ?base (wr.heap.size + 1) (by simp) ?_))
              case news => exact World.news_of_block (cs := #[Value.int .i32 (ws bb : Int), Value.int .i32 ((n : Int) + (bb : Int))]) (heap_alloc_new wr _)
              case one => intro y hy; simp at hy; rcases hy with rfl | rfl <;> rfl
              case h63 => have := HS.out; unfold maxLen; omega
              case bytes => have := HS.out; omega
              case base => simp; omega
              intro g cap2 w6 hown hgrow hat hlt2
              have hbel6 : Below H5 w5 w6 := (hbel.alloc hH _).grown hgrow (by simp; omega) (fun j hj => (hrow.lt j hj).1)
              have hH6 : H5 ≤ w6.heap.size := Nat.le_trans (by simp; omega) hgrow.size
              clear hgrow hrow hbel e0
              by_cases h0 : bb = 0
              · have HE3 : Hid (stE n k ws (bb + 1) = (L3.set (ws bb) (K3 : Int), A3 ++ [(ws bb : Int), (n : Int) + (bb : Int)], K3 + 1)) := by have := HE2.out; rw [if_pos h0] at this; exact this
                have h0' : ¬ (0 : Int) < (bb : Int) := by omega
                clear h0 HE2
                go_wp2
                go_roundw
                case rel =>
                  refine ⟨bb + 1, by omega, by go_num, ?_, hbel6, hH6⟩
                  rw [HE3.out]
                  simp only [List.length_append, List.map_append]
                  exact hown
                case measure => simp [intOf]; omega
              · have HE3 : Hid (stE n k ws (bb + 1) = ((L3.set (ws bb) (K3 : Int)).set (n + bb - 1) ((K3 + 1 : Nat) : Int), (A3 ++ [(ws bb : Int), (n : Int) + (bb : Int)]) ++ [((n + bb - 1 : Nat) : Int), (n : Int) + (bb : Int)], K3 + 1 + 1)) := by have := HE2.out; rw [if_neg h0] at this; exact this
                have h0' : (0 : Int) < (bb : Int) := by omega
                have EN1 : Hid (((n + bb - 1 : Nat) : Int) = (n : Int) + (bb : Int) - 1) := by show _ = _; omega
                have w3 : IntKind.i32.wrap ((n : Int) + (bb : Int) - 1) = (n : Int) + (bb : Int) - 1 := wrap32_small _ (by omega) (by omega)
                clear h0 HE2
                go_wp2_with (at_builtin; (refine wpList_append_lies (w6.alloc (Obj.cells #[Value.int .i32 ((n : Int) + (bb : Int) - 1), Value.int .i32 ((n : Int) + (bb : Int))] 21)) rfl _ _ 35 rfl H5 21 i21 _ 1 4 Yba.underlying35 hi hz hs hb rfl (by omega) (.slice (some ⟨g, 0, none⟩) (A3.length + 2) cap2) (A3.length + 2) (A3.map (Value.int .i32) ++ [.int .i32 (ws bb : Int), .int .i32 ((n : Int) + (bb : Int))]) rfl (hown.alloc _) ⟨w6.heap.size, 0, none⟩ 2 2 [.int .i32 ((n : Int) + (bb : Int) - 1), .int .i32 ((n : Int) + (bb : Int))] rfl rfl ?news ?one (by omega) ?h63 ?bytes ?base (w6.heap.size + 1) (by simp) ?_))
                case news => exact World.news_of_block (cs := #[Value.int .i32 ((n : Int) + (bb : Int) - 1), Value.int .i32 ((n : Int) + (bb : Int))]) (heap_alloc_new w6 _)
                case one => intro y hy; simp at hy; rcases hy with rfl | rfl <;> rfl
                case h63 => have := HS.out; unfold maxLen; omega
                case bytes => have := HS.out; omega
                case base => simp; omega
                intro g7 cap7 w7 hown7 hgrow7 hat7 hlt7
                have hbel7 : Below H5 w5 w7 := (hbel6.alloc hH6 _).grown hgrow7 (by simp; omega) (fun j hj => (hown.lt j hj).1)
                have hH7 : H5 ≤ w7.heap.size := Nat.le_trans (by simp; omega) hgrow7.size
                clear hgrow7 hown
                go_wp2
                go_roundw
                case rel =>
                  refine ⟨bb + 1, by omega, by go_num, ?_, hbel7, hH7⟩
                  rw [HE3.out, EN1.out]
                  simp only [List.length_append, List.map_append, List.append_assoc]
                  exact hown7
                case measure => simp [intOf]; omega
            · have ebk : bb = k := by omega
              subst ebk
              go_wp2
              go_meet
              case rel => exact ⟨by rw [EA.out]; exact hrow, hbel⟩
      case rest =>
      obtain ⟨hwa0, hbc⟩ := hcut
      have hbc' : Below w5.heap.size w5 wc := by rw [← HH5.out]; exact hbc
      have hstc : St w W0 n k tot A K q ws W0 R G (.slice ak k ck) vl' va' vk' vg' wc := hst5.keepW hbc' (Nat.le_of_lt hW5) hW5
      have h2 := hE.two
      have hfew := hE.few
      have hmost := hE.most
      have hwa : wc.ownsRow H5 21 1 u19 (2 * K) (A.map (Value.int .i32)) := by rw [← h2]; exact hwa0
      have ra : wc.ownsRow W0 21 1 va' (2 * K) (A.map (Value.int .i32)) := by rw [← h2]; exact hstc.gr.ra
      have rl : wc.ownsRow W0 21 1 vl' tot ((lastOf tot A K).map (Value.int .i32)) := by have := hstc.gr.rl; rw [lastOf_len] at this; exact this
      obtain ⟨nw, hnw⟩ : ∃ nw : Nat, nw = (tot + 63) / 64 := ⟨_, rfl⟩
      have rg : wc.ownsRow W0 42 1 vg' nw ((gw n tot).map (Value.int .u64)) := by have := hstc.gr.rg; rw [gw_len, ← hnw] at this; exact this
      have rk := hstc.gr.rk
      obtain ⟨a19, c19, rfl⟩ := row_form hwa
      obtain ⟨aa, ca, rfl⟩ := row_form ra
      obtain ⟨al, cl, rfl⟩ := row_form rl
      obtain ⟨ag, cg, rfl⟩ := row_form rg
      obtain ⟨akk, ckk, rfl⟩ := row_form rk
      have hf : ∀ i, i < 2 * K → A[i]? = some ((A[i]?).getD 0) := fun i hi => by rw [List.getElem?_eq_getElem (by omega)]; rfl
      have F3 : RowAt wc aa (2 * K) .i32 (fun i => (A[i]?).getD 0) := row_at ra _ hf
      have F4 : RowAt wc a19 (2 * K) .i32 (fun i => (A[i]?).getD 0) := row_at hwa _ hf
      have c2 := hstc.gr.c2
      have tot6 : tot ≤ 1000000 := by omega
      have K2 : (K : Int) ≤ 131072 := by omega
      have HBC : Hid (Below W0 w wc) := hstc.below
      have HE2 : Hid (Edges n k tot A K) := hE
      have HG : Hid (Gr wc W0 G n (lastOf tot A K) A K (gw n tot) (.slice al tot cl) (.slice aa (2 * K) ca) (.slice akk K ckk) (.slice ag nw cg)) := hstc.gr
      have HNW : Hid (nw = (tot + 63) / 64) := hnw
      have Hwlt : Hid (H5 ≤ wc.heap.size ∧ W0 ≤ wc.heap.size) := by
        have := HH5.out; have h9 := hbc'.size; exact ⟨by omega, by omega⟩
      clear hst5 hstc hbc hbc' hwa0 hE hnw h2 hfew hmost hf hw hn1 HH5 hW5 hH5 hW5'
      go_wp2_with (first | (go_at_call 9; refine (equal_i32' _ _ (2 * K) _ _ (fun i => (A[i]?).getD 0) _ (by omega) ?_ ?_).mono ?_; (exact F3); (exact F4); rintro e w7 ⟨rfl, hq7⟩; have hb7 : Below wc.heap.size wc w7 := (by obtain ⟨q7, rfl⟩ := hq7; exact ⟨rfl, rfl, rfl, Nat.le_refl _, fun _ _ => rfl⟩); have hG7 := HG.out.keep (w' := w7) (fun j hj => hb7.block j (HG.out.foot_lt j hj).2); have c3 := hG7.c3))
      clear c2 F3 F4 hq7 ra
      go_loop [22] (fun i => ∃ e : Nat, e ≤ K ∧ i = .int .i64 e) (fun i => K - (intOf i).toNat)
      case atStart => exact ⟨0, Nat.zero_le _, rfl⟩
      case round =>
        obtain ⟨e, he, rfl⟩ := hrel
        by_cases helt : e < K
        · obtain ⟨gk, cgk, hak, _, _⟩ := hG7.rk.form (by omega)
          simp at hak
          obtain ⟨rfl, rfl⟩ := hak
          have e0 : w7.cell? ⟨gk, e, none⟩ = some (.int .u8 0) := row_cell hG7.rk e _ (by simp [helt])
          have k1 : (e : Int) < (K : Int) := by omega
          clear hG7 hwa rl rg rk hb7
          go_wp2
          go_round
          case rel => exact ⟨e + 1, by omega, by go_num⟩
          case measure => simp [intOf]; omega
        · have eK : K = e := by omega
          subst eK
          clear he helt c3
          go_wp2
          generalize hL4 : w7.heap.size = L4
          have hbl4 : Below L4 w7 (w7.alloc (.cells (zrow (.int .i32 0) tot) 21)) := (Below.refl _ _).alloc (by omega) _
          have hblk4 : (w7.alloc (.cells (zrow (.int .i32 0) tot) 21)).heap[L4]? = some (.cells (zrow (.int .i32 0) tot) 21 (0, 0)) := by rw [← hL4]; exact heap_alloc_new w7 _
          go_loopw [24] (fun i wy => ∃ (u : Nat) (C : Array Value), u ≤ tot ∧ i = .int .i64 u ∧ Below L4 w7 wy ∧ wy.heap[L4]? = some (.cells C 21 (0, 0)) ∧ C.size = tot ∧ ∀ j, j < u → C[j]? = some (.int .i32 (-1))) (fun i _ => tot - (intOf i).toNat)
          case atStart => exact ⟨0, _, Nat.zero_le _, rfl, hbl4, hblk4, zrow_size _ _, fun j hj => by omega⟩
          case round =>
            obtain ⟨u, C, hu, rfl, hB, hC, hCs, HC0⟩ := hrel
            have HC : Hid (∀ j, j < u → C[j]? = some (.int .i32 (-1))) := HC0
            have HCs : Hid (C.size = tot) := hCs
            have HCb : Hid (wr.heap[L4]? = some (.cells C 21 (0, 0))) := hC
            clear HC0 hCs hC hbl4 hblk4
            by_cases hlt : u < tot
            · have e1 : wr.cell? ⟨L4, u, none⟩ = some (C.getD u undef) := by
                rw [cell_of_row wr L4 u C 21 _ HCb.out]
                have := HCs.out
                simp [this, hlt]
              have ef : wr.frozen? ⟨L4, u, none⟩ = false := by simp [World.frozen?, HCb.out]
              have k1 : (u : Int) < (tot : Int) := by omega
              clear hG7 hwa rl rg rk hb7
              go_wp2
              go_roundw
              case rel =>
                refine ⟨u + 1, C.setIfInBounds u (.int .i32 (-1)), by omega, by go_num, hB.setCell (p := ⟨L4, u, none⟩) (Nat.le_refl _) _, heap_setCell_cells _ _ _ _ _ _ HCb.out, by simp [HCs.out], fun j hj => ?_⟩
                by_cases ej : j = u
                · subst ej; have := HCs.out; simp [this, hlt]
                · rw [Array.getElem?_setIfInBounds_ne (by omega)]; exact HC.out j (by omega)
              case measure => simp [intOf]; omega
            · have eu : tot = u := by omega
              subst eu
              have hC0 : wr.heap[L4]? = some (.cells ((lastOf tot A 0).map (Value.int .i32)).toArray 21 (0, 0)) := by
                have eC : C = ((lastOf tot A 0).map (Value.int .i32)).toArray := by
                  apply Array.ext_getElem?
                  intro j
                  by_cases hj : j < tot
                  · rw [HC.out j hj]; simp [lastOf, hj]
                  · rw [Array.getElem?_eq_none (by have := HCs.out; omega)]; simp [lastOf, hj]
                rw [← eC]; exact HCb.out
              have hB0 : Hid (Below L4 w7 wr) := hB
              clear HC HCs HCb hu hlt
              go_wp2
              clear hB
              go_loopw [25] (fun i wy => ∃ e : Nat, e ≤ K ∧ i = .int .i64 e ∧ Below L4 w7 wy ∧ wy.heap[L4]? = some (.cells ((lastOf tot A e).map (Value.int .i32)).toArray 21 (0, 0))) (fun i _ => K - (intOf i).toNat)
              case atStart => exact ⟨0, Nat.zero_le _, rfl, hB0.out, hC0⟩
              case round =>
                obtain ⟨e, he, rfl, hB, hC⟩ := hrel
                have HCb : Hid (wr.heap[L4]? = some (.cells ((lastOf tot A e).map (Value.int .i32)).toArray 21 (0, 0))) := hC
                clear hC hC0
                have hold : ∀ j, j < wc.heap.size → wr.heap[j]? = wc.heap[j]? := fun j hj => by
                  rw [hB.block j (by have := hb7.size; omega)]; exact hb7.block j hj
                by_cases helt : e < K
                · obtain ⟨u, hu1, hu2⟩ := HE2.out.src e helt
                  obtain ⟨g19, cg19, ha19, _, hlt19⟩ := hwa.form (by omega)
                  simp at ha19
                  obtain ⟨rfl, rfl⟩ := ha19
                  have e0 : wr.cell? ⟨g19, 2 * e, none⟩ = some (.int .i32 (u : Int)) := by
                    rw [World.cell?_of_block (w := wc) (a := ⟨g19, 2 * e, none⟩) (hold g19 hlt19)]
                    exact row_cell hwa (2 * e) _ (by rw [List.getElem?_map, hu1]; rfl)
                  have e1 : wr.cell? ⟨L4, u, none⟩ = some (.int .i32 (((lastOf tot A e)[u]?).getD 0)) := by
                    rw [cell_of_row wr L4 u _ 21 _ HCb.out]
                    have hlen := lastOf_len tot A e
                    rw [List.getElem?_toArray, List.getElem?_map, List.getElem?_eq_getElem (by omega)]
                    rfl
                  have ef : wr.frozen? ⟨L4, u, none⟩ = false := by simp [World.frozen?, HCb.out]
                  have w1 : IntKind.i32.wrap (e : Int) = (e : Int) := wrap32_small _ (by omega) (by omega)
                  have k1 : (e : Int) < (K : Int) := by omega
                  have k2 : (2 * (e : Int)) < 2 * (K : Int) := by omega
                  have k3 : (u : Int) < (tot : Int) := by omega
                  have HU : Hid (A[2 * e]? = some (u : Int)) := hu1
                  generalize hOld : ((lastOf tot A e)[u]?).getD 0 = old at *
                  clear hG7 hwa rl rg rk hold hu1 hOld
                  go_wp2
                  go_roundw
                  case rel =>
                    refine ⟨e + 1, by omega, by go_num, hB.setCell (p := ⟨L4, u, none⟩) (Nat.le_refl _) _, ?_⟩
                    rw [heap_setCell_cells _ _ _ _ _ _ HCb.out]
                    have hl : lastOf tot A (e + 1) = (lastOf tot A e).set u (e : Int) := by
                      show (lastOf tot A e).set _ _ = _
                      rw [HU.out]; simp
                    rw [hl, List.map_set]
                    simp
                  case measure => simp [intOf]; omega
                · have eK : K = e := by omega
                  subst eK
                  have hGr : Gr wr W0 G n (lastOf tot A K) A K (gw n tot) (.slice al tot cl) (.slice aa (2 * K) ca) (.slice akk K ckk) (.slice ag nw cg) := HG.out.keep (fun j hj => hold j (HG.out.foot_lt j hj).2)
                  have hlen := lastOf_len tot A K
                  have rl' : wr.ownsRow W0 21 1 (.slice al tot cl) tot ((lastOf tot A K).map (Value.int .i32)) := by have := hGr.rl; rw [hlen] at this; exact this
                  have hfl : ∀ i, i < tot → (lastOf tot A K)[i]? = some (((lastOf tot A K)[i]?).getD 0) := fun i hi => by rw [List.getElem?_eq_getElem (by omega)]; rfl
                  have F5 : RowAt wr al tot .i32 (fun i => ((lastOf tot A K)[i]?).getD 0) := row_at rl' _ hfl
                  have F6 : RowAt wr (some ⟨L4, 0, none⟩) tot .i32 (fun i => ((lastOf tot A K)[i]?).getD 0) := fun _ => ⟨L4, rfl, fun i hi => by
                    rw [cell_of_row wr L4 i _ 21 _ HCb.out, List.getElem?_toArray, List.getElem?_map, hfl i hi]; rfl⟩
                  have c1 := hGr.c1
                  have HB8 : Hid (Below W0 w wr) := ⟨by rw [hB.os, hb7.os, HBC.out.os], by rw [hB.tape, hb7.tape, HBC.out.tape], by rw [hB.output, hb7.output, HBC.out.output], by have h1 := hB.size; have h2 := hb7.size; have h3 := HBC.out.size; omega, fun j hj => by rw [hold j (by have := Hwlt.out.2; omega)]; exact HBC.out.block j hj⟩
                  have n1 : ((tot : Int) + 63) / 64 = (nw : Int) := by have := HNW.out; omega
                  have n2 : ((tot : Int) + 63).tdiv 64 = (nw : Int) := by rw [Int.tdiv_eq_ediv_of_nonneg (by omega)]; exact n1
                  clear hG7 hwa rl rg rk hold hlen hfl HCb hB hb7 rl'
                  go_wp2_with (first | (go_at_call 9; refine (equal_i32' _ _ tot _ _ (fun i => ((lastOf tot A K)[i]?).getD 0) _ (by omega) ?_ ?_).mono ?_; (exact F5); (exact F6); rintro e w9 ⟨rfl, hq9⟩; have hb9 : Below wr.heap.size wr w9 := (by obtain ⟨q9, rfl⟩ := hq9; exact ⟨rfl, rfl, rfl, Nat.le_refl _, fun _ _ => rfl⟩); have hG9 := hGr.keep (w' := w9) (fun j hj => hb9.block j (hGr.foot_lt j hj).2); have c4 := hG9.c4))
                  have c0 := hG9.c0
                  have c5 : w9.cell? ⟨G, 5, none⟩ = some (.slice none 0 0) := hG9.cell 5 _ rfl
                  have c6 : w9.cell? ⟨G, 6, none⟩ = some (.slice none 0 0) := hG9.cell 6 _ rfl
                  have c7 : w9.cell? ⟨G, 7, none⟩ = some (.slice none 0 0) := hG9.cell 7 _ rfl
                  have c8 : w9.cell? ⟨G, 8, none⟩ = some (.slice none 0 0) := hG9.cell 8 _ rfl
                  have HB9 : Hid (Below w.heap.size w w9) := by
                    have h1 := HB8.out
                    rw [hW0]
                    exact h1.trans (hb9.mono (by have h2 := hGr.low; have h3 := hGr.lt; omega))
                  have rg9 : w9.ownsRow W0 42 1 (.slice ag nw cg) nw ((gw n tot).map (Value.int .u64)) := by have := hG9.rg; rw [gw_len, ← HNW.out] at this; exact this
                  have nw9 : (nw : Int) ≤ 2000 := by have := HNW.out; have := HE2.out.most; omega
                  clear hGr hG9 F5 F6 c1 HB8 hq9 hb9
                  go_loop [27] (fun i => ∃ u : Nat, u ≤ nw * 64 ∧ i = .int .i64 u) (fun i => nw * 64 - (intOf i).toNat)
                  case atStart => exact ⟨0, Nat.zero_le _, rfl⟩
                  case round =>
                    obtain ⟨u, hu, rfl⟩ := hrel
                    by_cases hlt : u < nw * 64
                    · obtain ⟨gg, cgg, hag, _, _⟩ := rg9.form (by omega)
                      simp at hag
                      obtain ⟨rfl, rfl⟩ := hag
                      obtain ⟨j, hj⟩ : ∃ j : Nat, j = u / 64 := ⟨_, rfl⟩
                      obtain ⟨i, hi⟩ : ∃ i : Nat, i = u % 64 := ⟨_, rfl⟩
                      have hjn : j < nw := by omega
                      have e0 : w9.cell? ⟨gg, j, none⟩ = some (.int .u64 (wd n tot j : Int)) := row_cell rg9 j _ (by rw [List.getElem?_map, gw_at n tot j (by have := HNW.out; omega)]; rfl)
                      have q3 : (u : Int).tdiv 64 = (j : Int) := by rw [Int.tdiv_eq_ediv_of_nonneg (by omega)]; omega
                      have q4 : (u : Int).tmod 64 = (i : Int) := by rw [Int.tmod_eq_emod_of_nonneg (by omega)]; omega
                      have q5 : (u : Int) / 64 = (j : Int) := by omega
                      have q6 : (u : Int) % 64 = (i : Int) := by omega
                      have q7 : IntKind.u64.wrap (i : Int) = (i : Int) := by unfold IntKind.wrap; simp [IntKind.bits, IntKind.signed]; omega
                      have k1 : (j : Int) < (nw : Int) := by omega
                      have k2 : (u : Int) < (nw : Int) * 64 := by omega
                      have k3 : (i : Int) ≤ 64 := by omega
                      have k4 : (0 : Int) ≤ (i : Int) := by omega
                      obtain ⟨bt, hbt⟩ : ∃ bt : Nat, bt = (wd n tot j / 2 ^ i) % 2 := ⟨_, rfl⟩
                      have hbit := bit_of n tot j i (by omega)
                      rw [← hbt, show 64 * j + i = u by omega] at hbit
                      have hand : bits .and .u64 ((wd n tot j : Int) / 2 ^ i) 1 = (bt : Int) := by
                        have := and1_u64 (wd n tot j / 2 ^ i) (Nat.lt_of_le_of_lt (Nat.div_le_self _ _) (wd_lt _ _ _))
                        rw [hbt, ← this]
                        simp
                      have HBT : Hid (bt = if n ≤ u ∧ u < tot then 1 else 0) := hbit
                      generalize hwd : (wd n tot j : Int) = wv at *
                      clear rg9 hj hi hbt hbit hwd
                      cases bl with
                      | false =>
                        have HT : Hid (tot = n) := (HQ.out.2 rfl).2.1
                        have hb0 : ((bt : Int) == 1) = false := by have h1 := HBT.out; have h2 := HT.out; rw [if_neg (by omega)] at h1; simp [h1]
                        go_wp2
                        go_round
                        case rel => exact ⟨u + 1, by omega, by go_num⟩
                        case measure => simp [intOf]; omega
                      | true =>
                        by_cases h1 : n ≤ u
                        · by_cases h2 : u < tot
                          · have hb0 : ((bt : Int) == 1) = true := by have h3 := HBT.out; rw [if_pos ⟨h1, h2⟩] at h3; simp [h3]
                            have h1' : (n : Int) ≤ (u : Int) := by omega
                            have h2' : (u : Int) < (tot : Int) := by omega
                            go_wp2
                            go_round
                            case rel => exact ⟨u + 1, by omega, by go_num⟩
                            case measure => simp [intOf]; omega
                          · have hb0 : ((bt : Int) == 1) = false := by have h3 := HBT.out; rw [if_neg (by omega)] at h3; simp [h3]
                            have h1' : (n : Int) ≤ (u : Int) := by omega
                            have h2' : ¬ (u : Int) < (tot : Int) := by omega
                            go_wp2
                            go_round
                            case rel => exact ⟨u + 1, by omega, by go_num⟩
                            case measure => simp [intOf]; omega
                        · have hb0 : ((bt : Int) == 1) = false := by have h3 := HBT.out; rw [if_neg (by omega)] at h3; simp [h3]
                          have h1' : ¬ (n : Int) ≤ (u : Int) := by omega
                          go_wp2
                          go_round
                          case rel => exact ⟨u + 1, by omega, by go_num⟩
                          case measure => simp [intOf]; omega
                    · have k2 : ¬ (u : Int) < (nw : Int) * 64 := by omega
                      clear rg9
                      have z1 := fun W => run_neq_slice_nil_any (P := Yba.prog) W 35 21 none 0 0 0 0 Yba.underlying35
                      have z2 := fun W => run_neq_slice_nil_any (P := Yba.prog) W 37 41 none 0 0 0 0 Yba.underlying37
                      go_wp2
                      go_ret
                      exact ⟨rfl, by have := HB9.out; rw [hW0] at this; exact this⟩

end Go.Proofs.Ybulkdvbs

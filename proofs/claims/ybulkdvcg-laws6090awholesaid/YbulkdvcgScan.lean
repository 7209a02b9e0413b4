/-
  newClassScan, walked.
-/
import Derived.Test.YbulkdvcgItems
import Derived.Deep.CutBlock
import Derived.Laws.EntriesVeiled
namespace Go.Proofs.Ybulkdvcg
open Go.RowKit
attribute [local go_sem ↓] exec_make42 exec_make43 exec_make37

theorem kd {w : World} {a : Addr} {v : Value} (h : w.cell? a = some v) : w.drew.cell? a = some v := h


set_option maxHeartbeats 4000000 in
set_option maxRecDepth 100000 in
theorem scan_any (S nt ct ni ns cs : Nat) (aT aS : Option Addr) (w : World) (hni : ni ≤ 65535) (hnt : nt ≤ 1048576) (hns : ns ≤ 65535)
    (h0 : w.cell? ⟨S, 0, none⟩ = some (.slice aT nt ct)) (h2 : w.cell? ⟨S, 2, none⟩ = some (.slice aS ns cs)) (h4 : w.cell? ⟨S, 4, none⟩ = some (.int .i64 (ni : Int))) (T : Nat) (X : Tx) (hT : 0 < nt → aT = some ⟨T, 0, none⟩ ∧ TRow w T nt X) (hst : ∀ i, 0 ≤ X.st i ∧ X.st i ≤ 255) :
    Calls Yba.prog 6 #[.pointer (some ⟨S, 0, none⟩)] w fun e w' => ∃ E K A B C : Nat, e = .returned (.pointer (some ⟨K, 0, none⟩)) ∧ Scan w' S E K A B C ni nt ns 0 X ∧ Keep (fun _ => False) w w' ∧ w.heap.size ≤ K ∧ E ≠ K ∧ K ≠ B := by
  have hS := World.block_lt_of_cell? w _ h0
  have hS' : S < w.heap.size := hS
  have r42 := fun W => run_mkv 42 76 z76 4 16 Yba.underlying42 inf76 (by omega) W ni (by omega)
  have r43 := fun W => run_mkv 43 72 (.int .u32 0) 1 4 Yba.underlying43 inf72 (by omega) W nt (by omega)
  have r37 := fun W => run_mkv 37 21 (.int .i32 0) 1 4 Yba.underlying37 inf21 (by omega) W ns (by omega)
  have HL := fun (_ : Unit) (W : World) (hW : W.cell? ⟨S, 2, none⟩ = some (.slice aS ns cs)) => len_any S aS ns cs W hW
  go_enter Yba.func6, Yba.ntmps6
  go_upto_region 1 with fail
  go_cut [3] from 7 to 24 (fun s3 wx => ∃ E K A B C, s3 = .pointer (some ⟨E, 0, none⟩) ∧ Hid (Fresh w wx S E K A B C ni nt ns))
  case first =>
    refine wp_region_held_drew (S := (fun w' => w'.cell? ⟨S, 0, none⟩ = some (.slice aT nt ct) ∧ w'.cell? ⟨S, 2, none⟩ = some (.slice aS ns cs) ∧ w'.cell? ⟨S, 4, none⟩ = some (.int .i64 (ni : Int)))) (by kernel_rfl) ?_ (fun hHeld => ?_)
    · exact ⟨kd h0, kd h2, kd h4⟩
    refine wpAnyH_take (i := 0) (oi := ?_) (v := ?_) (by simp only [List.getElem?_toArray, List.getElem?_cons_zero]; rfl) (by kernel_rfl) (by kernel_rfl) (by kernel_rfl) (by exact fun _ _ _ h => h) (Or.inl ⟨by rfl, ?_⟩) (by assumption) ?_; rotate_left; (focus (intro w hSw; (try dsimp only at hSw); first | (go_simp; done) | (go_simp; with_reducible rfl))); try simp only [Act.put, List.setIfInBounds_toArray, List.set_cons_zero, List.set_cons_succ]
    refine wpAnyH_take (i := 1) (oi := ?_) (v := ?_) (by simp only [List.getElem?_toArray, List.getElem?_cons_succ, List.getElem?_cons_zero]; rfl) (by kernel_rfl) (by kernel_rfl) (by kernel_rfl) (by exact fun _ _ _ h => h) (Or.inl ⟨by rfl, ?_⟩) (by assumption) ?_; rotate_left; (focus (intro w hSw; (try dsimp only at hSw); first | (go_simp; done) | (go_simp; with_reducible rfl))); try simp only [Act.put, List.setIfInBounds_toArray, List.set_cons_zero, List.set_cons_succ]
    refine wpAnyH_take (i := 2) (oi := ?_) (v := ?_) (by simp only [List.getElem?_toArray, List.getElem?_cons_succ, List.getElem?_cons_zero]; rfl) (by kernel_rfl) (by kernel_rfl) (by kernel_rfl) (by exact fun _ _ _ h => h) (Or.inl ⟨by rfl, ?_⟩) (by assumption) ?_; rotate_left; (focus (intro w hSw; (try dsimp only at hSw); first | (go_simp; done) | (go_simp; with_reducible rfl))); try simp only [Act.put, List.setIfInBounds_toArray, List.set_cons_zero, List.set_cons_succ]
    refine wpAnyH_take (i := 3) (oi := ?_) (v := ?_) (by simp only [List.getElem?_toArray, List.getElem?_cons_succ, List.getElem?_cons_zero]; rfl) (by kernel_rfl) (by kernel_rfl) (by kernel_rfl) (by exact fun _ _ _ h => h) (Or.inl ⟨by rfl, ?_⟩) (by assumption) ?_; rotate_left; (focus (intro w hSw; (try dsimp only at hSw); first | (go_simp; done) | (go_simp; with_reducible rfl))); try simp only [Act.put, List.setIfInBounds_toArray, List.set_cons_zero, List.set_cons_succ]
    refine wpAnyH_take (i := 4) (oi := ?_) (v := ?_) (by simp only [List.getElem?_toArray, List.getElem?_cons_succ, List.getElem?_cons_zero]; rfl) (by kernel_rfl) (by kernel_rfl) (by kernel_rfl) (by exact fun _ _ _ h => h) (Or.inl ⟨by rfl, ?_⟩) (by assumption) ?_; rotate_left; (focus (intro w hSw; (try dsimp only at hSw); first | (go_simp; done) | (go_simp; with_reducible rfl))); try simp only [Act.put, List.setIfInBounds_toArray, List.set_cons_zero, List.set_cons_succ]
    refine wpAnyH_take (i := 6) (oi := ?_) (v := ?_) (by simp only [List.getElem?_toArray, List.getElem?_cons_succ, List.getElem?_cons_zero]; rfl) (by kernel_rfl) (by kernel_rfl) (by kernel_rfl) (by exact fun _ _ _ h => h) (Or.inl ⟨by rfl, ?_⟩) (by assumption) ?_; rotate_left; (focus (intro w hSw; (try dsimp only at hSw); first | (go_simp; done) | (go_simp; with_reducible rfl))); try simp only [Act.put, List.setIfInBounds_toArray, List.set_cons_zero, List.set_cons_succ]
    refine wpAnyH_take (i := 7) (oi := ?_) (v := ?_) (by simp only [List.getElem?_toArray, List.getElem?_cons_succ, List.getElem?_cons_zero]; rfl) (by kernel_rfl) (by kernel_rfl) (by kernel_rfl) (by exact fun _ _ _ h => h) (Or.inl ⟨by rfl, ?_⟩) (by assumption) ?_; rotate_left; (focus (intro w hSw; (try dsimp only at hSw); first | (go_simp; done) | (go_simp; with_reducible rfl))); try simp only [Act.put, List.setIfInBounds_toArray, List.set_cons_zero, List.set_cons_succ]
    refine wpAnyH_take (i := 8) (oi := ?_) (v := ?_) (by simp only [List.getElem?_toArray, List.getElem?_cons_succ, List.getElem?_cons_zero]; rfl) (by kernel_rfl) (by kernel_rfl) (by kernel_rfl) (by exact fun _ _ _ h => h) (Or.inl ⟨by rfl, ?_⟩) (by assumption) ?_; rotate_left; (focus (intro w hSw; (try dsimp only at hSw); first | (go_simp; done) | (go_simp; with_reducible rfl))); try simp only [Act.put, List.setIfInBounds_toArray, List.set_cons_zero, List.set_cons_succ]
    refine wpAnyH_take (i := 9) (oi := ?_) (v := ?_) (by simp only [List.getElem?_toArray, List.getElem?_cons_succ, List.getElem?_cons_zero]; rfl) (by kernel_rfl) (by kernel_rfl) (by kernel_rfl) (by exact fun _ _ _ h => h) (Or.inl ⟨by rfl, ?_⟩) (by assumption) ?_; rotate_left; (focus (intro w hSw; (try dsimp only at hSw); first | (go_simp; done) | (go_simp; with_reducible rfl))); try simp only [Act.put, List.setIfInBounds_toArray, List.set_cons_zero, List.set_cons_succ]
    refine wpAnyH_take (i := 10) (oi := ?_) (v := ?_) (by simp only [List.getElem?_toArray, List.getElem?_cons_succ, List.getElem?_cons_zero]; rfl) (by kernel_rfl) (by kernel_rfl) (by kernel_rfl) (by exact fun _ _ _ h => h) (Or.inl ⟨by rfl, ?_⟩) (by assumption) ?_; rotate_left; (focus (intro w hSw; (try dsimp only at hSw); first | (go_simp; done) | (go_simp; with_reducible rfl))); try simp only [Act.put, List.setIfInBounds_toArray, List.set_cons_zero, List.set_cons_succ]
    refine wpAnyH_take (i := 12) (oi := ?_) (v := ?_) (by simp only [List.getElem?_toArray, List.getElem?_cons_succ, List.getElem?_cons_zero]; rfl) (by kernel_rfl) (by kernel_rfl) (by kernel_rfl) (by exact fun _ _ _ h => h) (Or.inl ⟨by rfl, ?_⟩) (by assumption) ?_; rotate_left; (focus (intro w hSw; (try dsimp only at hSw); first | (go_simp; done) | (go_simp; with_reducible rfl))); try simp only [Act.put, List.setIfInBounds_toArray, List.set_cons_zero, List.set_cons_succ]
    have hSP : ∀ wx, Keep (fun _ => False) w wx → wx.cell? ⟨S, 0, none⟩ = some (.slice aT nt ct) ∧ wx.cell? ⟨S, 2, none⟩ = some (.slice aS ns cs) ∧ wx.cell? ⟨S, 4, none⟩ = some (.int .i64 (ni : Int)) := fun wx hk =>
      ⟨(hk.cell _ hS' (fun h => h)).trans h0, (hk.cell _ hS' (fun h => h)).trans h2, (hk.cell _ hS' (fun h => h)).trans h4⟩
    have hinv0 : Inv6 w S ni nt ns false false false false false false false false undef undef undef undef undef undef undef w.drew :=
      ⟨(Keep.refl _ w).drew, nofun, nofun, nofun, nofun, nofun, nofun, nofun, nofun, nofun⟩
    refine wpAnyH_inv (fun l a wx => ∃ b5 b11 b13 b14 b15 b16 b17 b18 v3 v12 v18 v20 v21 v22 v23, l = #[true, true, true, true, true, b5, true, true, true, true, true, b11, true, b13, b14, b15, b16, b17, b18] ∧ a = act6 S ni nt ct aT v3 v12 v18 v20 v21 v22 v23 ∧ Inv6 w S ni nt ns b5 b11 b13 b14 b15 b16 b17 b18 v3 v12 v18 v20 v21 v22 v23 wx) ?hend ?hstep _ _ _ _ (Nat.le_of_eq (by kernel_rfl)) ⟨false, false, false, false, false, false, false, false, undef, undef, undef, undef, undef, undef, undef, by kernel_rfl, by rfl, hinv0⟩
    case hend =>
      rintro l a wx ⟨b5, b11, b13, b14, b15, b16, b17, b18, v3, v12, v18, v20, v21, v22, v23, rfl, rfl, HI⟩ hr
      have key : ∀ i, ¬ i ∈ Region.ready _ _ _ := fun i h => by rw [hr] at h; cases h
      clear hr
      cases b5
      · exact absurd (mem_ready.2 ⟨rfl, _, rfl, by simp [Region.binds]⟩) (key 5)
      cases b11
      · exact absurd (mem_ready.2 ⟨rfl, _, rfl, by simp [Region.binds]⟩) (key 11)
      cases b13
      · exact absurd (mem_ready.2 ⟨rfl, _, rfl, by simp [Region.binds]⟩) (key 13)
      cases b14
      · exact absurd (mem_ready.2 ⟨rfl, _, rfl, by simp [Region.binds]⟩) (key 14)
      cases b15
      · exact absurd (mem_ready.2 ⟨rfl, _, rfl, by simp [Region.binds]⟩) (key 15)
      cases b16
      · exact absurd (mem_ready.2 ⟨rfl, _, rfl, by simp [Region.binds]⟩) (key 16)
      cases b17
      · exact absurd (mem_ready.2 ⟨rfl, _, rfl, by simp [Region.binds]⟩) (key 17)
      cases b18
      · exact absurd (mem_ready.2 ⟨rfl, _, rfl, by simp [Region.binds]⟩) (key 18)
      obtain ⟨E, K, A, B, C, rfl, HF⟩ := HI.fin rfl
      dsimp only [act6]
      go_wp2_with fail
      go_meet
      exact ⟨E, K, A, B, C, rfl, HF⟩
    case hstep =>
      rintro l a wx i ⟨b5, b11, b13, b14, b15, b16, b17, b18, v3, v12, v18, v20, v21, v22, v23, rfl, rfl, HI⟩ hi
      obtain ⟨g1, o, ho, g3⟩ := mem_ready.1 hi
      have hlt : i < 19 := (Array.getElem?_eq_some_iff.1 ho).1
      clear hi
      have hi19 : i = 0 ∨ i = 1 ∨ i = 2 ∨ i = 3 ∨ i = 4 ∨ i = 5 ∨ i = 6 ∨ i = 7 ∨ i = 8 ∨ i = 9 ∨ i = 10 ∨ i = 11 ∨ i = 12 ∨ i = 13 ∨ i = 14 ∨ i = 15 ∨ i = 16 ∨ i = 17 ∨ i = 18 := by omega
      rcases hi19 with rfl | rfl | rfl | rfl | rfl | rfl | rfl | rfl | rfl | rfl | rfl | rfl | rfl | rfl | rfl | rfl | rfl | rfl | rfl
      all_goals simp at g1
      all_goals have ho0 := ho
      all_goals simp only [List.getElem?_toArray, List.getElem?_cons_succ, List.getElem?_cons_zero, Option.some.injEq] at ho
      all_goals subst ho
      all_goals simp [Region.binds] at g3
      all_goals refine wpOp_step ho0 (fun K' hK => ?_)
      all_goals clear ho0
      all_goals have HK : Shut _ := hK
      all_goals clear hK
      all_goals rw [if_pos (by rfl)]
      all_goals subst g1
      · unfold act6
        go_simp
        exact HK.out _ _ ⟨hSP _ (HI.grow _).keep, true, b11, b13, b14, b15, b16, b17, b18, v3, _, v18, v20, v21, v22, v23, rfl, rfl, (HI.grow _).keep, fun _ => ⟨_, rfl, HI.keep.size, heap_alloc_new _ _⟩, (HI.grow _).f18, HI.f20, (HI.grow _).f21, (HI.grow _).f22, (HI.grow _).f23, (HI.grow _).f3, HI.ord, (HI.grow _).fin⟩
      · unfold act6
        go_simp
        exact HK.out _ _ ⟨hSP _ (HI.grow _).keep, b5, true, b13, b14, b15, b16, b17, b18, v3, v12, _, v20, v21, v22, v23, rfl, rfl, (HI.grow _).keep, (HI.grow _).f12, fun _ => ⟨_, rfl, HI.keep.size, heap_alloc_new _ _⟩, HI.f20, (HI.grow _).f21, (HI.grow _).f22, (HI.grow _).f23, (HI.grow _).f3, HI.ord, (HI.grow _).fin⟩
      · unfold act6
        go_simp
        refine (HL () _ (hSP _ HI.keep).2.1).mono ?_
        rintro e w2 ⟨rfl, rfl⟩
        go_simp
        exact HK.out _ _ ⟨hSP _ HI.keep, b5, b11, true, b14, b15, b16, b17, b18, v3, v12, v18, _, v21, v22, v23, rfl, rfl, HI.keep, HI.f12, HI.f18, fun _ => rfl, HI.f21, HI.f22, HI.f23, HI.f3, HI.ord, HI.fin⟩
      · obtain rfl := HI.f20 g3
        unfold act6
        go_simp
        exact HK.out _ _ ⟨hSP _ (HI.grow _).keep, b5, b11, b13, true, b15, b16, b17, b18, v3, v12, v18, _, _, v22, v23, rfl, rfl, (HI.grow _).keep, (HI.grow _).f12, (HI.grow _).f18, HI.f20, fun _ => ⟨_, rfl, HI.keep.size, heap_alloc_new _ _⟩, (HI.grow _).f22, (HI.grow _).f23, (HI.grow _).f3, HI.ord, (HI.grow _).fin⟩
      · obtain ⟨A, rfl, lA, eA⟩ := HI.f12 g3.1
        obtain ⟨B, rfl, lB, eB⟩ := HI.f18 g3.2.1
        obtain ⟨C, rfl, lC, eC⟩ := HI.f21 g3.2.2
        unfold act6
        go_simp
        exact HK.out _ _ ⟨hSP _ HI.keep, b5, b11, b13, b14, true, b16, b17, b18, v3, _, _, v20, _, _, v23, rfl, rfl, HI.keep, HI.f12, HI.f18, HI.f20, HI.f21, fun _ => ⟨A, B, C, rfl, ⟨lA, eA⟩, ⟨lB, eB⟩, lC, eC⟩, HI.f23, HI.f3, HI.ord, HI.fin⟩
      · obtain ⟨A, B, C, rfl, ⟨lA, eA⟩, ⟨lB, eB⟩, lC, eC⟩ := HI.f22 g3
        unfold act6 scan0
        go_simp
        exact HK.out _ _ ⟨hSP _ (HI.grow _).keep, b5, b11, b13, b14, b15, true, b17, b18, v3, v12, v18, v20, v21, .agg (scan0 S A B C ni nt ns), _, rfl, rfl, (HI.grow _).keep, (HI.grow _).f12, (HI.grow _).f18, HI.f20, (HI.grow _).f21, (HI.grow _).f22, fun _ => ⟨_, A, B, C, rfl, ⟨HI.keep.size, heap_alloc_new _ _⟩, ⟨lA, heap_grow _ eA⟩, ⟨lB, heap_grow _ eB⟩, lC, heap_grow _ eC⟩, (HI.grow _).f3, HI.ord, (HI.grow _).fin⟩
      · unfold act6
        go_simp
        exact HK.out _ _ ⟨hSP _ (HI.grow _).keep, b5, b11, b13, b14, b15, b16, true, b18, _, v12, v18, v20, v21, v22, v23, rfl, rfl, (HI.grow _).keep, (HI.grow _).f12, (HI.grow _).f18, HI.f20, (HI.grow _).f21, (HI.grow _).f22, (HI.grow _).f23, fun _ _ => ⟨_, rfl, HI.keep.size, heap_alloc_new _ _⟩, fun _ => rfl, fun h => by cases HI.ord h⟩
      · obtain ⟨g17, g16⟩ : b17 = true ∧ b16 = true := ⟨g3.1, g3.2.1⟩
        subst g17 g16
        obtain ⟨E, rfl, lE, eE⟩ := HI.f3 rfl rfl
        obtain ⟨K, A, B, C, rfl, -⟩ := HI.f23 rfl
        have c1 : wx.cell? ⟨E, 0, none⟩ = some (.pointer none) := cell_of wx E 0 _ _ eE
        have z1 : wx.frozen? ⟨E, 0, none⟩ = false := free_of wx E 0 _ _ eE
        unfold act6
        go_simp
        exact HK.out _ _ ⟨hSP _ HI.store.keep, b5, b11, b13, b14, b15, true, true, true, _, v12, v18, v20, v21, v22, _, rfl, rfl, HI.store⟩
  case rest =>
    obtain ⟨E, K, A, B, C, rfl, HF⟩ := hcut
    clear r42 r43 r37 HL
    have E0 : wc.cell? ⟨E, 0, none⟩ = some (.pointer (some ⟨K, 0, none⟩)) := cell_of wc E 0 _ _ HF.out.e
    have K2 : wc.cell? ⟨K, 2, none⟩ = some (.slice (some ⟨A, 0, none⟩) ni ni) := cell_of wc K 2 _ _ HF.out.k
    have K3 : wc.cell? ⟨K, 3, none⟩ = some (.slice (some ⟨B, 0, none⟩) nt nt) := cell_of wc K 3 _ _ HF.out.k
    have lE : E < wc.heap.size := (Array.getElem?_eq_some_iff.1 HF.out.e).1
    have lK : K < wc.heap.size := (Array.getElem?_eq_some_iff.1 HF.out.k).1
    have lA : A < wc.heap.size := (Array.getElem?_eq_some_iff.1 HF.out.a).1
    have lB : B < wc.heap.size := (Array.getElem?_eq_some_iff.1 HF.out.b).1
    have lS : S < wc.heap.size := Nat.lt_of_lt_of_le hS' HF.out.keep.size
    have hI0 : Hid (Items wc A ni 0) := items_made wc A ni HF.out.a
    have hnn : (ni : Int) ≤ 65535 := by omega
    obtain ⟨nEK, nEA, nEB, nEC, nKA, nKB, nKC, nAB, nAC, nBC⟩ := HF.out.ne
    clear h2 h4
    go_wp2
    go_loopw [29] (fun i wr => ∃ k : Nat, k ≤ ni ∧ i = .int .i64 k ∧ Hid (Items wr A ni k) ∧ Hid (Keep (fun b => b = A) wc wr)) (fun i _ => ni - (intOf i).toNat)
    case atStart => exact ⟨0, Nat.zero_le _, rfl, hI0, Keep.refl _ _⟩
    case round =>
      obtain ⟨k, hk, rfl, HI, HK⟩ := hrel
      have E1 : wr.cell? ⟨E, 0, none⟩ = some (.pointer (some ⟨K, 0, none⟩)) := (HK.out.cell ⟨E, 0, none⟩ lE nEA).trans E0
      by_cases hlt : k < ni
      · have k1 : (k : Int) < (ni : Int) := by omega
        have k2 : (k : Int).toNat = k := by omega
        have K21 : wr.cell? ⟨K, 2, none⟩ = some (.slice (some ⟨A, 0, none⟩) ni ni) := (HK.out.cell ⟨K, 2, none⟩ lK nKA).trans K2
        have d0 : wr.cell? ⟨A, k * 4, none⟩ = some _ := HI.out.cell k 0 hlt (by omega)
        have d1 : wr.cell? ⟨A, k * 4 + 1, none⟩ = some _ := HI.out.cell k 1 hlt (by omega)
        have d2 : wr.cell? ⟨A, k * 4 + 2, none⟩ = some _ := HI.out.cell k 2 hlt (by omega)
        have d3 : wr.cell? ⟨A, k * 4 + 3, none⟩ = some _ := HI.out.cell k 3 hlt (by omega)
        have z0 := HI.out.free (k * 4)
        have z1 := HI.out.free (k * 4 + 1)
        have z2 := HI.out.free (k * 4 + 2)
        have z3 := HI.out.free (k * 4 + 3)
        have HI2 : Hid _ := HI.out.step hlt
        have HK2 : Hid (Keep (fun b => b = A) wc ((((wr.setCell ⟨A, k * 4, none⟩ (.int .i32 (-1))).setCell ⟨A, k * 4 + 1, none⟩ (.int .u32 0)).setCell ⟨A, k * 4 + 2, none⟩ (.int .u32 0)).setCell ⟨A, k * 4 + 3, none⟩ (.int .u32 0))) :=
          (((HK.out.trans (Keep.setCell wr ⟨A, k * 4, none⟩ _) (fun _ h => .inl h)).trans (Keep.setCell _ ⟨A, k * 4 + 1, none⟩ _) (fun _ h => .inl h)).trans (Keep.setCell _ ⟨A, k * 4 + 2, none⟩ _) (fun _ h => .inl h)).trans (Keep.setCell _ ⟨A, k * 4 + 3, none⟩ _) (fun _ h => .inl h)
        go_wp2
        go_roundw
        case rel => exact ⟨k + 1, by omega, by go_num, HI2, HK2⟩
        case measure => simp [intOf]; omega
      · have e : ni = k := by omega
        subst e
        obtain ⟨wA, hwA⟩ : ∃ wA, wA = wr := ⟨_, rfl⟩
        subst hwA
        have low := HF.out.low
        have HKw : Hid (Keep (fun _ => False) w wA) := HF.out.keep.trans HK.out (fun i h => .inr (by subst h; exact low.2.2.1))
        have S0 : wA.cell? ⟨S, 0, none⟩ = some (.slice aT nt ct) := (HKw.out.cell ⟨S, 0, none⟩ hS' (fun h => h)).trans h0
        have K31 : wA.cell? ⟨K, 3, none⟩ = some (.slice (some ⟨B, 0, none⟩) nt nt) := (HK.out.cell ⟨K, 3, none⟩ lK nKA).trans K3
        have hB0 : Hid (RowU wA B nt (fun j => if j < 0 then endN (X.st j) (X.en j) else 0)) := (ends_made wc B nt _ HF.out.b).keep (HK.out.block B lB (Ne.symm nAB))
        have hlts : E < wA.heap.size ∧ K < wA.heap.size ∧ B < wA.heap.size := by have := HK.out.size; omega
        have hT2 : 0 < nt → T < w.heap.size := fun h => by have := World.block_lt_of_cell? w _ ((hT h).2.c0 0 h); exact this
        have hnn2 : (nt : Int) ≤ 1048576 := by omega
        go_wp2
        go_loopw [45] (fun i wr => ∃ k : Nat, k ≤ nt ∧ i = .int .i64 k ∧ Hid (RowU wr B nt (fun j => if j < k then endN (X.st j) (X.en j) else 0)) ∧ Hid (Keep (fun b => b = B) wA wr)) (fun i _ => nt - (intOf i).toNat)
        case atStart => exact ⟨0, Nat.zero_le _, rfl, hB0, Keep.refl _ _⟩
        case round =>
          obtain ⟨k, hk, rfl, HR, HB⟩ := hrel
          by_cases hlt : k < nt
          · obtain ⟨rfl, hrow⟩ := hT (by omega)
            have k1 : (k : Int) < (nt : Int) := by omega
            have k2 : (k : Int).toNat = k := by omega
            have HKr : Keep (fun _ => False) w wr := HKw.out.trans HB.out (fun i h => .inr (by subst h; exact low.2.2.2.1))
            have hrow2 := hrow.keep (HKr.block T (hT2 (by omega)) (fun h => h))
            have t0 := hrow2.c0 k hlt
            have t1 := hrow2.c1 k hlt
            have t2 := hrow2.c2 k hlt
            clear HKr hrow2 hrow
            go_upto_region 10 with fail
            have hsr := HB.out.size
            have HK1 : Hid (Keep (fun b => b = B) wA (wr.alloc (Obj.cells #[Value.int .i64 (X.id k), Value.int .u8 (X.st k), Value.int .i64 (X.en k)] 29))) := HB.out.trans (Keep.alloc (fun _ => False) wr _) (fun _ h => h.elim)
            have HR1 : Hid (RowU (wr.alloc (Obj.cells #[Value.int .i64 (X.id k), Value.int .u8 (X.st k), Value.int .i64 (X.en k)] 29)) B nt (fun j => if j < k then endN (X.st j) (X.en j) else 0)) := HR.out.keep (Below.heap_alloc _ _ _ (by omega))
            have f0 : (wr.alloc (Obj.cells #[Value.int .i64 (X.id k), Value.int .u8 (X.st k), Value.int .i64 (X.en k)] 29)).cell? ⟨wr.heap.size, 0, none⟩ = some (.int .i64 (X.id k)) := World.cell?_alloc_at _ _ _ _ rfl
            have f1 : (wr.alloc (Obj.cells #[Value.int .i64 (X.id k), Value.int .u8 (X.st k), Value.int .i64 (X.en k)] 29)).cell? ⟨wr.heap.size, 1, none⟩ = some (.int .u8 (X.st k)) := World.cell?_alloc_at _ _ _ _ rfl
            have f2 : (wr.alloc (Obj.cells #[Value.int .i64 (X.id k), Value.int .u8 (X.st k), Value.int .i64 (X.en k)] 29)).cell? ⟨wr.heap.size, 2, none⟩ = some (.int .i64 (X.en k)) := World.cell?_alloc_at _ _ _ _ rfl
            have hs1 : wr.heap.size < (wr.alloc (Obj.cells #[Value.int .i64 (X.id k), Value.int .u8 (X.st k), Value.int .i64 (X.en k)] 29)).heap.size := by simp
            have nB : B ≠ wr.heap.size := by omega
            generalize wr.alloc (Obj.cells #[Value.int .i64 (X.id k), Value.int .u8 (X.st k), Value.int .i64 (X.en k)] 29) = w1 at *
            generalize hV : wr.heap.size = V at *
            clear HR HB t0 t1 t2 hV
            have E11 : w1.cell? ⟨E, 0, none⟩ = some (.pointer (some ⟨K, 0, none⟩)) := (HK1.out.cell ⟨E, 0, none⟩ hlts.1 nEB).trans E1
            have K311 : w1.cell? ⟨K, 3, none⟩ = some (.slice (some ⟨B, 0, none⟩) nt nt) := (HK1.out.cell ⟨K, 3, none⟩ hlts.2.1 nKB).trans K31
            have hs2 := HK1.out.size
            have HC : Hid (∀ v : World, Keep (fun _ => False) w1 v → Calls Yba.prog 15 #[.agg #[.int .i64 (X.id k), .int .u8 (X.st k), .int .i64 (X.en k)]] v fun e w2 => e = .returned (.int .u32 (endN (X.st k) (X.en k))) ∧
                (w2.cell? ⟨E, 0, none⟩ = some (.pointer (some ⟨K, 0, none⟩)) ∧ w2.cell? ⟨K, 3, none⟩ = some (.slice (some ⟨B, 0, none⟩) nt nt) ∧ w2.cell? ⟨V, 0, none⟩ = some (.int .i64 (X.id k)) ∧ w2.cell? ⟨V, 1, none⟩ = some (.int .u8 (X.st k)) ∧ w2.cell? ⟨V, 2, none⟩ = some (.int .i64 (X.en k))) ∧
                w2.cell? ⟨B, k, none⟩ = some (.int .u32 0) ∧ w2.frozen? ⟨B, k, none⟩ = false ∧ Hid (RowU w2 B nt (fun j => if j < k then endN (X.st j) (X.en j) else 0)) ∧ Hid (Keep (fun b => b = B) wA w2)) := by
              intro v kv
              refine (endOf_any (X.id k) (X.st k) (X.en k) v (hst k)).mono ?_
              rintro e w2 ⟨rfl, hb⟩
              have kk : Keep (fun _ => False) w1 w2 := kv.trans (keep_bel hb) (fun _ h => h.elim)
              have hr2 := HR1.out.keep (kk.block B (by omega) (fun h => h))
              refine ⟨rfl, ⟨(kk.cell ⟨E, 0, none⟩ (by show E < _; omega) (fun h => h)).trans E11, (kk.cell ⟨K, 3, none⟩ (by show K < _; omega) (fun h => h)).trans K311, (kk.cell ⟨V, 0, none⟩ hs1 (fun h => h)).trans f0, (kk.cell ⟨V, 1, none⟩ hs1 (fun h => h)).trans f1, (kk.cell ⟨V, 2, none⟩ hs1 (fun h => h)).trans f2⟩, ?_, hr2.free k, hr2, HK1.out.trans kk (fun _ h => h.elim)⟩
              have := hr2.cell k hlt
              simpa using this
            have nE' : B ≠ E := Ne.symm nEB
            have nK' : B ≠ K := Ne.symm nKB
            clear E0 K2 K3 HF hI0 HKw S0 K31 hB0 E1 HI HK hT h0
            go_region_held3 (fun w' => w'.cell? ⟨E, 0, none⟩ = some (.pointer (some ⟨K, 0, none⟩)) ∧ w'.cell? ⟨K, 3, none⟩ = some (.slice (some ⟨B, 0, none⟩) nt nt) ∧ w'.cell? ⟨V, 0, none⟩ = some (.int .i64 (X.id k)) ∧ w'.cell? ⟨V, 1, none⟩ = some (.int .u8 (X.st k)) ∧ w'.cell? ⟨V, 2, none⟩ = some (.int .i64 (X.en k))) (first | assumption | go_keep) (first
              | (go_at_call 15; refine (HC.out _ ?_).mono ?_; (exact ⟨rfl, rfl, rfl, Nat.le_refl _, fun _ _ _ => rfl⟩); rintro e w2 ⟨rfl, hS2, b1, b2, HR2, HB2⟩))
            have HR3 : Hid (RowU (w2.setCell ⟨B, k, none⟩ (.int .u32 (endN (X.st k) (X.en k)))) B nt (fun j => if j < k + 1 then endN (X.st j) (X.en j) else 0)) := ends_step (f := fun j => endN (X.st j) (X.en j)) HR2.out hlt
            have HB3 : Hid (Keep (fun b => b = B) wA (w2.setCell ⟨B, k, none⟩ (.int .u32 (endN (X.st k) (X.en k))))) := HB2.out.trans (Keep.setCell w2 ⟨B, k, none⟩ _) (fun _ h => .inl h)
            go_wp2
            go_roundw
            case rel => exact ⟨k + 1, by omega, by go_num, HR3, HB3⟩
            case measure => simp [intOf]; omega
          · have e : nt = k := by omega
            subst e
            have hsc := scan_of HF.out HK.out HB.out HI.out HR.out
            have hfin : Hid (Scan ((wr.setCell ⟨K, 5, none⟩ (fGone E)).setCell ⟨K, 6, none⟩ fSame) S E K A B C ni nt ns 0 X ∧ Keep (fun _ => False) w ((wr.setCell ⟨K, 5, none⟩ (fGone E)).setCell ⟨K, 6, none⟩ fSame) ∧ w.heap.size ≤ K ∧ E ≠ K ∧ K ≠ B) := ⟨hsc.1, hsc.2, low.2.1, nEK, nKB⟩
            have hmf : ∀ fn first cap w, (Instr.makeFunc fn first cap).run Yba.prog w = .ok (.func fn first cap) w := fun _ _ _ _ => rfl
            have E9 : wr.cell? ⟨E, 0, none⟩ = some (.pointer (some ⟨K, 0, none⟩)) := (HB.out.cell ⟨E, 0, none⟩ hlts.1 nEB).trans E1
            have hKb : wr.heap[K]? = some (.cells (scan0 S A B C ni nt ns) 70) := (HB.out.block K hlts.2.1 nKB).trans ((HK.out.block K lK nKA).trans HF.out.k)
            have c5 : wr.cell? ⟨K, 5, none⟩ = some .nilFunc := cell_of wr K 5 _ _ hKb
            have c6 : wr.cell? ⟨K, 6, none⟩ = some .nilFunc := cell_of wr K 6 _ _ hKb
            have z5 := free_of wr K 5 _ _ hKb
            have z6 := free_of wr K 6 _ _ hKb
            clear hsc hKb E0 K2 K3 HF hI0 HKw S0 K31 hB0 E1 HI HK hT h0 HR HB
            go_wp2
            go_ret
            exact ⟨E, K, A, B, C, rfl, hfin.out⟩

end Go.Proofs.Ybulkdvcg

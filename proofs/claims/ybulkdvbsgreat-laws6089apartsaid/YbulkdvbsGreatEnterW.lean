/-
  components$1 ('enter'), walked.
-/
import Derived.Test.YbulkdvbsGreatEnter
import Derived.Test.YbulkdvbsGreatPath
import Derived.Test.YbulkdvbsGreatApp
namespace Go.Proofs.YbulkdvbsGreat
open Go.RowKit

theorem inf234 : ∃ i, Ybaz.prog.info? 234 = some i ∧ i.zero = some (.agg #[.int .i32 0, .int .i32 0, .int .i32 0]) ∧ i.size = 3 ∧ i.bytes = 12 := inf_of (by kernel_rfl)
theorem new3 (w : World) (a b c : Nat) (t : TypeId) : ∀ j, j < 3 → (w.alloc (.cells #[.int .i32 (a : Int), .int .i32 (b : Int), .int .i32 (c : Int)] t)).cell? ((⟨w.heap.size, 0, none⟩ : Addr).add j) = some (fr a b c j) := fun j hj => by
  rw [add_none]
  match j, hj with
  | 0, _ => exact World.cell?_alloc_at _ _ _ _ rfl
  | 1, _ => exact World.cell?_alloc_at _ _ _ _ rfl
  | 2, _ => exact World.cell?_alloc_at _ _ _ _ rfl
theorem fr_one (a b c j : Nat) : (fr a b c j).oneCell' = true := by unfold fr; split; rfl; split <;> rfl

theorem CM.newStack {w w' : World} {bG B G n : Nat} {idx low comp : Nat → Int} {on : Nat → Bool} {vis : Nat} {sa : Option Addr} {sl sc : Nat} {sk : Nat → Nat} {pa : Option Addr} {pl pc : Nat} {pn pe pf : Nat → Nat} (h : CM w bG B G n idx low comp on vis sa sl sc sk pa pl pc pn pe pf) {g cap : Nat} (v : Nat) (hb : w'.heap[B + 8]? = some (.cells #[.slice (some ⟨g, 0, none⟩) (sl + 1) cap] 95)) (hv : Vec w' 21 1 (some ⟨g, 0, none⟩) (sl + 1) cap (push sl (fun i _ => .int .i32 (sk i : Int)) (fun _ => .int .i32 (v : Int)))) (kp : Keep (fun b => b = B + 8 ∨ sa = some ⟨b, 0, none⟩) w w') (hg : sa = some ⟨g, 0, none⟩ ∨ w.heap.size ≤ g) :
    CM w' bG B G n idx low comp on vis (some ⟨g, 0, none⟩) (sl + 1) cap (fun i => if i = sl then v else sk i) pa pl pc pn pe pf ∧ Keep (fun b => B ≤ b) w w' := by
  have F : ∀ b, b < B + 10 → b ≠ B + 8 → ¬ (b = B + 8 ∨ sa = some ⟨b, 0, none⟩) := by
    rintro b h1 h2 (h3 | h3)
    · exact h2 h3
    · have := h.hsa b h3; omega
  have s0 := h.sz
  have s1 := kp.size
  have hbG := h.hb
  refine ⟨⟨kp.at h.g (F _ (by omega) (by omega)), kp.at h.bi (F _ (by omega) (by omega)), kp.at h.bl (F _ (by omega) (by omega)), kp.at h.bo (F _ (by omega) (by omega)), kp.at h.bv (F _ (by omega) (by omega)), hb, kp.at h.bp (F _ (by omega) (by omega)), h.ri.keep (kp.block _ (by omega) (F _ (by omega) (by omega))), h.rl.keep (kp.block _ (by omega) (F _ (by omega) (by omega))), h.rc.keep (kp.block _ (by omega) (F _ (by omega) (by omega))), h.ro.keep (kp.block _ (by omega) (F _ (by omega) (by omega))), hv.congr Nat.one_pos (fun i c _ _ => by unfold push; by_cases e : i = sl <;> simp only [e, if_true, if_false]), h.vp.keep kp ?_, by omega, h.hb, ?_, h.hpa⟩, kp.wide ?_⟩
  · rintro b hb (q | q)
    · have := h.hpa b hb; omega
    · exact h.vs.apart h.vp (by decide) q hb
  · intro b hb
    injection hb with hb; injection hb with hb
    subst hb
    rcases hg with q | q
    · exact h.hsa _ q
    · omega
  · rintro b (q | q)
    · omega
    · have := h.hsa b q; omega
theorem CM.newPath {w w' : World} {bG B G n : Nat} {idx low comp : Nat → Int} {on : Nat → Bool} {vis : Nat} {sa : Option Addr} {sl sc : Nat} {sk : Nat → Nat} {pa : Option Addr} {pl pc : Nat} {pn pe pf : Nat → Nat} (h : CM w bG B G n idx low comp on vis sa sl sc sk pa pl pc pn pe pf) {g cap : Nat} (a b c : Nat) (hb : w'.heap[B + 9]? = some (.cells #[.slice (some ⟨g, 0, none⟩) (pl + 1) cap] 232)) (hv : Vec w' 234 3 (some ⟨g, 0, none⟩) (pl + 1) cap (push pl (fun i c => fr (pn i) (pe i) (pf i) c) (fr a b c))) (kp : Keep (fun b => b = B + 9 ∨ pa = some ⟨b, 0, none⟩) w w') (hg : pa = some ⟨g, 0, none⟩ ∨ w.heap.size ≤ g) :
    CM w' bG B G n idx low comp on vis sa sl sc sk (some ⟨g, 0, none⟩) (pl + 1) cap (fun i => if i = pl then a else pn i) (fun i => if i = pl then b else pe i) (fun i => if i = pl then c else pf i) ∧ Keep (fun b => B ≤ b) w w' := by
  have F : ∀ b, b < B + 10 → b ≠ B + 9 → ¬ (b = B + 9 ∨ pa = some ⟨b, 0, none⟩) := by
    rintro b h1 h2 (h3 | h3)
    · exact h2 h3
    · have := h.hpa b h3; omega
  have s0 := h.sz
  have s1 := kp.size
  have hbG := h.hb
  refine ⟨⟨kp.at h.g (F _ (by omega) (by omega)), kp.at h.bi (F _ (by omega) (by omega)), kp.at h.bl (F _ (by omega) (by omega)), kp.at h.bo (F _ (by omega) (by omega)), kp.at h.bv (F _ (by omega) (by omega)), kp.at h.bs (F _ (by omega) (by omega)), hb, h.ri.keep (kp.block _ (by omega) (F _ (by omega) (by omega))), h.rl.keep (kp.block _ (by omega) (F _ (by omega) (by omega))), h.rc.keep (kp.block _ (by omega) (F _ (by omega) (by omega))), h.ro.keep (kp.block _ (by omega) (F _ (by omega) (by omega))), h.vs.keep kp ?_, hv.congr (by decide) (fun i c _ _ => by unfold push; by_cases e : i = pl <;> simp only [e, if_true, if_false]), by omega, h.hb, h.hsa, ?_⟩, kp.wide ?_⟩
  · rintro b hb (q | q)
    · have := h.hsa b hb; omega
    · exact h.vs.apart h.vp (by decide) hb q
  · intro b hb
    injection hb with hb; injection hb with hb
    subst hb
    rcases hg with q | q
    · exact h.hpa _ q
    · omega
  · rintro b (q | q)
    · omega
    · have := h.hpa b q; omega

/-- Behind 'enter(v)'. -/
def Entered (w' : World) (bG B G n : Nat) (idx low comp : Nat → Int) (on : Nat → Bool) (vis : Nat) (sl : Nat) (sk : Nat → Nat) (pl : Nat) (pn pe pf : Nat → Nat) (v : Nat) (first : Nat → Nat) : Prop := ∃ sa sc pa pc,
  CM w' bG B G n (fun i => if i = v then (vis : Int) else idx i) (fun i => if i = v then (vis : Int) else low i) comp (fun i => if i = v then true else on i) (vis + 1) sa (sl + 1) sc (fun i => if i = sl then v else sk i) pa (pl + 1) pc (fun i => if i = pl then v else pn i) (fun i => if i = pl then first v else pe i) (fun i => if i = pl then first (v + 1) else pf i)
attribute [local go_sem ↓ 2000] exec_app

set_option maxHeartbeats 8000000 in
set_option maxRecDepth 100000 in
theorem enter_any (G n E : Nat) (la : Option Addr) (lc : Nat) (ga : Option Addr) (gc FB NX KN : Nat) (ah : Value) (first : Nat → Nat) (next kd : Nat → Int) (bG B : Nat) (idx low comp : Nat → Int) (on : Nat → Bool) (vis : Nat) (sa : Option Addr) (sl sc : Nat) (sk : Nat → Nat) (pa : Option Addr) (pl pc : Nat) (pn pe pf : Nat → Nat) (v : Nat) (w : World)
    (hgl : GL w G n E la lc ga gc FB NX KN ah first next kd) (hcm : CM w bG B G n idx low comp on vis sa sl sc sk pa pl pc pn pe pf) (hv : v < n) (hn : n ≤ 5) (hvis : vis ≤ 5) (hsl : sl ≤ 5) (hpl : pl ≤ 5) (hO : ∀ b, gBlk G ga FB NX KN n ah b → b < B) :
    Calls Ybaz.prog 134 #[.int .i32 (v : Int), .pointer (some ⟨B + 7, 0, none⟩), .pointer (some ⟨B + 1, 0, none⟩), .pointer (some ⟨B + 3, 0, none⟩), .pointer (some ⟨B + 8, 0, none⟩), .pointer (some ⟨B + 6, 0, none⟩), .pointer (some ⟨B + 9, 0, none⟩), .pointer (some ⟨bG, 0, none⟩)] w fun e w' =>
      e = .returned (.tuple #[]) ∧ Entered w' bG B G n idx low comp on vis sl sk pl pn pe pf v first ∧ Keep (fun b => B ≤ b) w w' := by
  have v1 : (v : Int) < (n : Int) := by omega
  have v2 : (v : Int).toNat = v := by omega
  have c1 := cell_of w (B + 1) 0 _ _ hcm.bi
  have c3 := cell_of w (B + 3) 0 _ _ hcm.bl
  have c7 := cell_of w (B + 7) 0 _ _ hcm.bv
  have e1 := hcm.ri.cell v hv
  have e2 := hcm.rl.cell v hv
  have z1 := hcm.ri.free v
  have z2 := hcm.rl.free v
  obtain ⟨m1, k1⟩ := hcm.setIdx v hv vis
  obtain ⟨m2, k2⟩ := m1.setLow v hv vis
  have HM2 : Hid _ := m2.keepF ((Keep.refl _ _).drew)
  have HK2 : Hid _ := (k1.trans k2 (fun _ q => .inl q)).drew
  have HGL : Hid _ := hgl
  have HO : Hid _ := hO
  have x1 : B ≠ B + 2 := by omega
  have x2 : B + 1 ≠ B := by omega
  have x3 : B + 3 ≠ B + 2 := by omega
  clear m1 m2 k1 k2 hgl hcm hO
  simp only [List.getElem?_toArray, List.getElem?_cons_zero] at c1 c3 c7
  go_enter Ybaz.func134, Ybaz.ntmps134
  go_upto_region 0 with fail
  go_region
  generalize (((w.setCell ⟨B, v, none⟩ (.int .i32 (vis : Int))).setCell ⟨B + 2, v, none⟩ (.int .i32 (vis : Int))).drew) = w2 at *
  clear c1 c3 c7 e1 e2 z1 z2
  have c7 := cell_of w2 (B + 7) 0 _ _ HM2.out.bv
  have z7 := free_of w2 (B + 7) 0 _ _ HM2.out.bv
  simp only [List.getElem?_toArray, List.getElem?_cons_zero] at c7
  have vw : IntKind.i32.wrap ((vis : Int) + 1) = (vis : Int) + 1 := by unfold IntKind.wrap; simp [IntKind.bits, IntKind.signed]; omega
  obtain ⟨m3, k3⟩ := HM2.out.setVis (vis + 1)
  rw [show ((vis + 1 : Nat) : Int) = (vis : Int) + 1 by omega] at m3 k3
  have HM3 : Hid _ := m3
  have HK3 : Hid _ := HK2.out.trans k3 (fun _ q => .inl q)
  clear m3 k3
  go_upto_region 2 with fail
  clear c7 z7 HM2 HK2
  generalize w2.setCell ⟨B + 7, 0, none⟩ (.int .i32 ((vis : Int) + 1)) = w3 at *
  have c8 := cell_of w3 (B + 8) 0 _ _ HM3.out.bs
  have z8 := free_of w3 (B + 8) 0 _ _ HM3.out.bs
  simp only [List.getElem?_toArray, List.getElem?_cons_zero] at c8
  obtain ⟨g4, cap4, w4, hr4, hv4, hk4, hg4, hl4⟩ := run_push (w3.alloc (.cells #[.int .i32 (v : Int)] 21)) 95 21 95 1 4 _ Ybaz.underlying95 inf21 rfl Nat.one_pos (by decide) sa sl sc _ (HM3.out.vs.alloc _) ⟨w3.heap.size, 0, none⟩ 1 (fun _ => .int .i32 (v : Int)) (new1 w3 _ 21) (fun _ _ => rfl) (by omega)
  have hna : ¬ sa = some ⟨B + 8, 0, none⟩ := fun q => by have := HM3.out.hsa _ q; omega
  have b8 := (hk4.at (heap_grow _ HM3.out.bs) hna)
  have c8b := cell_of w4 (B + 8) 0 _ _ b8
  have z8b := free_of w4 (B + 8) 0 _ _ b8
  simp only [List.getElem?_toArray, List.getElem?_cons_zero] at c8b
  obtain ⟨t1, t2, t3, _, t5⟩ := field_push (i := 0) HM3.out.bs hv4 hk4 hg4 hna
  obtain ⟨m5, k5⟩ := HM3.out.newStack v t1 t2 t3 t5
  have HM5 : Hid _ := m5
  have HK5 : Hid _ := HK3.out.trans k5 (fun _ q => .inl q)
  clear m5 k5 t1 t2 t3 t5 b8 hv4 hk4 hg4 hl4 hna
  go_upto_region 3 with fail
  clear c8 z8 c8b z8b hr4 HM3 HK3
  generalize w4.setCell ⟨B + 8, 0, none⟩ (.slice (some ⟨g4, 0, none⟩) (sl + 1) cap4) = w5 at *
  have c6 := cell_of w5 (B + 6) 0 _ _ HM5.out.bo
  simp only [List.getElem?_toArray, List.getElem?_cons_zero] at c6
  have e5 := HM5.out.ro.cell v hv
  have z5 := HM5.out.ro.free v
  obtain ⟨m6, k6⟩ := HM5.out.setOn v hv true
  have HM6 : Hid _ := m6
  have HK6 : Hid _ := HK5.out.trans k6 (fun _ q => .inl q)
  clear m6 k6
  go_upto_region 4 with fail
  clear c6 e5 z5 HM5 HK5
  generalize w5.setCell ⟨B + 5, v, none⟩ (.bool true) = w6 at *
  have gl := HGL.out.keepB HK6.out (fun b hb q => by have := HO.out b hb; omega)
  have c9 := cell_of w6 (B + 9) 0 _ _ HM6.out.bp
  have cg := cell_of w6 bG 0 _ _ HM6.out.g
  have c5 : w6.cell? ⟨G, 5, none⟩ = some (.slice (some ⟨FB, 0, none⟩) (n + 1) (n + 1)) := cell_of w6 G 5 _ _ gl.blk
  have ef1 := gl.rf.cell v (by omega)
  have ef2 := gl.rf.cell (v + 1) (by omega)
  simp only [List.getElem?_toArray, List.getElem?_cons_zero] at c9 cg
  have c9a : (w6.alloc (.cells #[.int .i32 (v : Int), .int .i32 (first v : Int), .int .i32 (first (v + 1) : Int)] 234)).cell? ⟨B + 9, 0, none⟩ = some (.slice pa pl pc) := cell_of _ (B + 9) 0 _ _ (heap_grow _ HM6.out.bp)
  have u1 : (v : Int) < (n : Int) + 1 := by omega
  have u3 : ((v : Int) + 1).toNat = v + 1 := by omega
  have u4 : (v : Int) + 1 < (n : Int) + 1 := by omega
  have u5 : (0 : Int) ≤ (v : Int) + 1 := by omega
  have uw : IntKind.i32.wrap ((v : Int) + 1) = (v : Int) + 1 := by unfold IntKind.wrap; simp [IntKind.bits, IntKind.signed]; omega
  obtain ⟨g7, cap7, w7, hr7, hv7, hk7, hg7, hl7⟩ := run_push (w6.alloc (.cells #[.int .i32 (v : Int), .int .i32 (first v : Int), .int .i32 (first (v + 1) : Int)] 234)).drew 232 234 232 3 12 _ Ybaz.underlying232 inf234 rfl (by decide) (by decide) pa pl pc _ ((HM6.out.vp.keep ((Keep.refl (fun _ => False) _).drew) (fun _ _ q => q)).alloc _) ⟨w6.heap.size, 0, none⟩ 1 (fr v (first v) (first (v + 1))) (new3 w6.drew v (first v) (first (v + 1)) 234) (fun j _ => fr_one _ _ _ j) (by omega)
  have hna : ¬ pa = some ⟨B + 9, 0, none⟩ := fun q => by have := HM6.out.hpa _ q; omega
  have b9 := hk7.at (heap_grow (w := w6.drew) (.cells #[.int .i32 (v : Int), .int .i32 (first v : Int), .int .i32 (first (v + 1) : Int)] 234) HM6.out.bp) hna
  have c9b := cell_of w7 (B + 9) 0 _ _ b9
  have z9b := free_of w7 (B + 9) 0 _ _ b9
  simp only [List.getElem?_toArray, List.getElem?_cons_zero] at c9b
  obtain ⟨t1, t2, t3, _, t5⟩ := field_push (wr := w6.drew) (i := 0) HM6.out.bp hv7 hk7 hg7 hna
  obtain ⟨m8, k8⟩ := (HM6.out.keepF ((Keep.refl (fun _ => False) w6).drew)).newPath v (first v) (first (v + 1)) t1 t2 t3 t5
  have HM8 : Hid _ := m8
  have HK8 : Hid (Keep (fun b => B ≤ b) w _) := HK6.out.drew.trans k8 (fun _ q => .inl q)
  clear m8 k8 t1 t2 t3 t5 b9 hv7 hk7 hg7 hl7 hna gl
  as_aux_lemma =>
    go_region
    clear c9 c9a cg c5 ef1 ef2 c9b z9b hr7 HM6 HK6
    generalize w7.setCell ⟨B + 9, 0, none⟩ (.slice (some ⟨g7, 0, none⟩) (pl + 1) cap7) = w8 at *
    go_wp2
    go_end0
    exact ⟨rfl, ⟨_, _, _, _, HM8.out⟩, HK8.out⟩
end Go.Proofs.YbulkdvbsGreat

/-
  rigorous, walked.
-/
import Derived.Test.YbulkdvbsGreatRigM
import Derived.Test.YbulkdvbsGreatLOnly
import Derived.Test.YbulkdvbsGreatLSet
namespace Go.Proofs.YbulkdvbsGreat
open Go.RowKit
attribute [local go_sem ↓ 2000] exec_app

/-- What rigorous answers. -/
def RetRig (kd tx ky : Nat → Nat) (M : Nat) (e : Ending) : Prop := ∃ r : Bool, e = .returned (.bool r) ∧ (r = true ↔ ∀ j, j < M → ¬ Fault kd tx ky j)
/-- The pass between two operations. -/
def RS (kd tx ky : Nat → Nat) (wt : Nat → Prop) (num : Nat → Nat) (w0 : World) (LB LO HI RB CB TM m j ids : Nat) (w : World) : Prop :=
  ∃ mn mn2 cls idf W R own ct cm bt sw sr, RI kd tx ky wt num j ids idf W R own ct ∧ RM w0 LB LO HI RB CB TM m mn mn2 cls idf W R own ct cm bt sw sr w ∧ mn ≤ 2001 * j ∧ mn2 ≤ j ∧ ids ≤ j
/-- Its transaction is open, in block b. -/
def RO (kd tx ky : Nat → Nat) (wt : Nat → Prop) (num : Nat → Nat) (w0 : World) (LB LO HI RB CB TM m j ids t b : Nat) (w : World) : Prop :=
  ∃ mn mn2 cls idf W R own ct cm bt sw sr, RI kd tx ky wt num j ids idf W R own ct ∧ RM w0 LB LO HI RB CB TM m mn mn2 cls idf W R own ct cm bt sw sr w ∧ mn ≤ 2001 * j ∧ mn2 ≤ j + 1 ∧ ids ≤ j + 1 ∧ bt t = some b
theorem zero121 (w : World) : (zeroValue 121).run Ybaz.prog w = .ok (.pointer none) w := by kernel_rfl
theorem RM.start {w0 w : World} {LB LO HI RB CB m : Nat} (k : Keep (fun _ => False) w0 w) (l : LWt w LB LO HI m (fun _ => 0)) (o : ORd w RB CB m 0 (fun _ => none) (fun _ _ => 0)) (hl : w0.heap.size ≤ LB ∧ w0.heap.size ≤ LO ∧ w0.heap.size ≤ HI) (ho : w0.heap.size ≤ RB ∧ w0.heap.size ≤ CB)
    (hd : RB ≠ LB ∧ RB ≠ LO ∧ RB ≠ HI ∧ CB ≠ LB ∧ CB ≠ LO ∧ CB ≠ HI ∧ CB ≠ RB) :
    ∃ cls, RM w0 LB LO HI RB CB w.heap.size m 0 0 cls (fun _ => 0) (fun _ => []) (fun _ => []) (fun _ => 0) (fun _ _ => 0) (fun _ => none) (fun _ => none) (fun _ => (none, 0)) (fun _ => (none, 0)) (w.alloc (.map #[] 0)) := by
  have kA := Keep.alloc (fun _ => False) w (.map #[] 0)
  have l1 := heap_lt l.blk
  have l2 := l.lt
  have l3 := heap_lt o.blk
  obtain ⟨c, hc⟩ := o.ty
  have l4 := heap_lt hc
  have ne := l.ne
  have hs : (w.alloc (.map #[] 0)).heap.size = w.heap.size + 1 := World.size_alloc _ _
  refine ⟨fun b => if b = LB then 1 else if b = RB then 2 else if b = LO then 3 else if b = HI then 3 else if b = CB then 4 else if b = w.heap.size then 5 else 0, ?_⟩
  refine ⟨k.trans kA (fun _ q => q.elim), fun b q => ?_, by simp, ?_, ?_, ?_, fun b hb => ?_, ?_, l.keep kA id id id, o.keep kA id (fun _ _ => id), ?_, fun t => by simp, fun t b q => by simp at q, fun t b q => by simp at q, fun t b g q => by simp at q, fun t b g q => by simp at q⟩
  · have hk := k.size
    by_cases h1 : b = LB
    · omega
    · by_cases h2 : b = RB
      · omega
      · by_cases h3 : b = LO
        · omega
        · by_cases h4 : b = HI
          · omega
          · by_cases h5 : b = CB
            · omega
            · by_cases h6 : b = w.heap.size
              · omega
              · simp [h1, h2, h3, h4, h5, h6] at q
  · have : RB ≠ LB := hd.1
    simp [this]
  · have h1 : LO ≠ LB := Ne.symm ne.2.1
    have h2 : LO ≠ RB := Ne.symm hd.2.1
    simp [h1, h2]
  · have h1 : HI ≠ LB := Ne.symm ne.2.2
    have h2 : HI ≠ RB := Ne.symm hd.2.2.1
    simp [h1, h2]
  · have : b = CB := by
      rcases hb with q | ⟨x, _, q⟩
      · exact q
      · simp at q
    subst this
    simp [hd.2.2.2.1, hd.2.2.2.2.1, hd.2.2.2.2.2.1, hd.2.2.2.2.2.2]
  · have h1 : w.heap.size ≠ LB := by omega
    have h2 : w.heap.size ≠ RB := by omega
    have h3 : w.heap.size ≠ LO := by omega
    have h4 : w.heap.size ≠ HI := by omega
    have h5 : w.heap.size ≠ CB := by omega
    simp [h1, h2, h3, h4, h5]
  · have := MP.made w 31
    refine this.congr (fun l => ?_)
    have e1 : (fun _ : Int => (none : Option Value)) = ptF (fun _ => none) := by funext z; simp [ptF]
    rw [← e1, ← intM_none .u64]

theorem LWt.notop {w : World} {LB LO HI m : Nat} {own : Nat → Nat} (h : LWt w LB LO HI m own) (hm : 0 < m) {b : Nat} {k : Int} {v1 v2 v3 v4 v5 v6 : Value} (hb : w.heap[b]? = some (.cells #[.int .u8 k, v1, v2, v3, v4, v5, v6] 34)) : b ≠ LO ∧ b ≠ HI := by
  obtain ⟨f, r, _⟩ := h.lo
  obtain ⟨g, t, _⟩ := h.hi
  have c : w.cell? ⟨b, 0, none⟩ = some (.int .u8 k) := cell_of _ _ 0 _ _ hb
  constructor
  · rintro rfl
    have := r.cell 0 (by omega)
    rw [c] at this
    simp at this
  · rintro rfl
    have := t.cell 0 (by omega)
    rw [c] at this
    simp at this
theorem ORd.notop {w : World} {RB CB m mn : Nat} {cm : Nat → Option Nat} {ct : Nat → Nat → Nat} (h : ORd w RB CB m mn cm ct) {b : Nat} {c : Array Value} {t : TypeId} (ht : t ≠ 198) (hb : w.heap[b]? = some (.cells c t)) : ¬ oB CB m cm b := by
  rintro (rfl | ⟨x, hx, q⟩)
  · obtain ⟨c', hc⟩ := h.ty
    exact ne_of_types hb hc ht rfl
  · exact (h.yes x hx b q).not_cells hb rfl
theorem inf126 : ∃ i, Ybaz.prog.info? 126 = some i ∧ i.zero = some (.agg #[.int .i64 0, .int .i64 0]) ∧ i.size = 2 ∧ i.bytes = 16 := inf_of (by kernel_rfl)
theorem newR2 (w : World) (x : Nat) (t : TypeId) : ∀ j, j < 2 → (w.alloc (.cells #[.int .i64 (x : Int), .int .i64 ((x : Int) + 1)] t)).cell? ((⟨w.heap.size, 0, none⟩ : Addr).add j) = some (.int .i64 ((x : Nat) + (j : Nat) : Int)) := fun j hj => by
  rw [add_none, cell_of _ _ _ _ _ (heap_alloc_new _ _)]
  have : j = 0 ∨ j = 1 := by omega
  rcases this with rfl | rfl <;> simp
set_option maxHeartbeats 8000000 in
set_option maxRecDepth 100000 in
theorem rig_any (OB M oc : Nat) (kd tx ky : Nat → Nat) (KS NK : Nat) (wt : Nat → Prop) (num : Nat → Nat) (sx : Nat → ByteArray) (mb : Nat) (sa : Option Addr) (sc mn : Nat) (w : World) (h : OP w OB M kd tx ky) (hks : KSp w KS NK wt num sx mb sa sc mn) (H : KH kd ky wt num M) :
    Calls Ybaz.prog 14 #[.slice (some ⟨OB, 0, none⟩) M oc, .pointer (some ⟨KS, 0, none⟩)] w fun e w' => RetRig kd tx ky M e ∧ Keep (fun _ => False) w w' := by
  have HO : Hid _ := h
  have HS : Hid _ := hks
  have HH : Hid _ := H
  have hM := h.hM
  have hM' : (M : Int) ≤ 2000 := by omega
  have hnk := hks.nk
  have hnk' : (NK : Int) ≤ 3 := by omega
  have cK : w.cell? ⟨KS, 1, none⟩ = some (.slice sa NK sc) := cell_of _ _ 1 _ _ hks.blk
  have hKS := heap_lt hks.blk
  have HL : Hid (∀ v : World, Keep (fun _ => False) w v → Calls Ybaz.prog 42 #[.int .i64 (NK : Int)] v fun e w' => ∃ LB, e = .returned (.pointer (some ⟨LB, 0, none⟩)) ∧ (w'.cell? ⟨KS, 1, none⟩ = some (.slice sa NK sc) ∧ Hid (Keep (fun _ => False) w w')) ∧ Hid (∃ LO HI, LWt w' LB LO HI NK (fun _ => 0) ∧ v.heap.size ≤ LB ∧ v.heap.size ≤ LO ∧ v.heap.size ≤ HI) ∧ Hid (Keep (fun _ => False) v w')) := fun v kv => by
    refine (newLW_any NK v hnk).mono ?_
    rintro e w' ⟨⟨LB, LO, HI, rfl, h1, h2⟩, k⟩
    have kk := kv.trans k (fun _ q => q.elim)
    exact ⟨LB, rfl, ⟨(kk.cell ⟨KS, 1, none⟩ hKS id).trans cK, kk⟩, ⟨LO, HI, h1, h2⟩, k⟩
  have HR : Hid (∀ v : World, Keep (fun _ => False) w v → Calls Ybaz.prog 43 #[.int .i64 (NK : Int)] v fun e w' => ∃ RB, e = .returned (.pointer (some ⟨RB, 0, none⟩)) ∧ (w'.cell? ⟨KS, 1, none⟩ = some (.slice sa NK sc) ∧ Hid (Keep (fun _ => False) w w')) ∧ Hid (∃ CB, ORd w' RB CB NK 0 (fun _ => none) (fun _ _ => 0) ∧ v.heap.size ≤ RB ∧ v.heap.size ≤ CB) ∧ Hid (Keep (fun _ => False) v w')) := fun v kv => by
    refine (newOR_any NK v hnk).mono ?_
    rintro e w' ⟨⟨RB, CB, rfl, h1, h2⟩, k⟩
    have kk := kv.trans k (fun _ q => q.elim)
    exact ⟨RB, rfl, ⟨(kk.cell ⟨KS, 1, none⟩ hKS id).trans cK, kk⟩, ⟨CB, h1, h2⟩, k⟩
  have h0 : w.drew.cell? ⟨KS, 1, none⟩ = some (.slice sa NK sc) ∧ Hid (Keep (fun _ => False) w w.drew) := ⟨cK, (Keep.refl _ _).drew⟩
  clear h hks H cK
  go_enter Ybaz.func14, Ybaz.ntmps14
  go_upto_region 1 with fail
  go_cut [5, 6] from 18 to 29 (fun s5 s6 wx => ∃ LB LO HI RB CB, s5 = .pointer (some ⟨LB, 0, none⟩) ∧ s6 = .pointer (some ⟨RB, 0, none⟩) ∧ Hid (Keep (fun _ => False) w wx ∧ LWt wx LB LO HI NK (fun _ => 0) ∧ ORd wx RB CB NK 0 (fun _ => none) (fun _ _ => 0) ∧ (w.heap.size ≤ LB ∧ w.heap.size ≤ LO ∧ w.heap.size ≤ HI) ∧ (w.heap.size ≤ RB ∧ w.heap.size ≤ CB) ∧ (RB ≠ LB ∧ RB ≠ LO ∧ RB ≠ HI ∧ CB ≠ LB ∧ CB ≠ LO ∧ CB ≠ HI ∧ CB ≠ RB)))
  case first => as_aux_lemma =>
    go_region_held3 (fun w' => w'.cell? ⟨KS, 1, none⟩ = some (.slice sa NK sc) ∧ Hid (Keep (fun _ => False) w w')) (first | assumption | exact h0) (first
      | (go_at_call 42; refine (HL.out _ ?_).mono ?_; (go_split_ands; first | exact Hid.out (by assumption)); rintro e w2 ⟨LB, rfl, hS2, HL2, HKL⟩)
      | (go_at_call 43; refine (HR.out _ ?_).mono ?_; (go_split_ands; first | exact Hid.out (by assumption)); rintro e w3 ⟨RB, rfl, hS3, HR2, HKR⟩))
    have HF : Hid (∃ LO HI CB, Keep (fun _ => False) w w3 ∧ LWt w3 LB LO HI NK (fun _ => 0) ∧ ORd w3 RB CB NK 0 (fun _ => none) (fun _ _ => 0) ∧ (w.heap.size ≤ LB ∧ w.heap.size ≤ LO ∧ w.heap.size ≤ HI) ∧ (w.heap.size ≤ RB ∧ w.heap.size ≤ CB) ∧ (RB ≠ LB ∧ RB ≠ LO ∧ RB ≠ HI ∧ CB ≠ LB ∧ CB ≠ LO ∧ CB ≠ HI ∧ CB ≠ RB)) := by
      obtain ⟨LO, HI, l, q1, q2, q3⟩ := HL2.out
      obtain ⟨CB, o, q4, q5⟩ := HR2.out
      obtain ⟨c, hc⟩ := o.ty
      have e : w.drew.heap.size = w.heap.size := rfl
      have l1 := heap_lt l.blk
      have l2 := l.lt
      have kk := HKL.out.size
      exact ⟨LO, HI, CB, hS3.2.out, l.keep HKR.out id id id, o, ⟨by omega, by omega, by omega⟩, ⟨by omega, by omega⟩, by omega, by omega, by omega, by omega, by omega, by omega, ne_of_types hc o.blk (by decide)⟩
    clear HL2 HR2 HKL HKR hS2 hS3 h0 HL HR
    obtain ⟨LO, HI, CB, HF⟩ := HF.out
    have HF' : Hid _ := HF
    clear HF
    go_wp2
    go_meet
    exact ⟨LB, LO, HI, RB, CB, rfl, rfl, HF'⟩
  case rest =>
    clear HL HR h0
    obtain ⟨LB, LO, HI, RB, CB, rfl, rfl, HF⟩ := hcut
    have HS0 : Hid (RS kd tx ky wt num w LB LO HI RB CB wc.heap.size NK 0 0 (wc.alloc (.map #[] 0))) := by
      obtain ⟨k, l, o, h1, h2, h3⟩ := HF.out
      obtain ⟨cls, m⟩ := RM.start k l o h1 h2 h3
      exact ⟨0, 0, cls, _, _, _, _, _, _, _, _, _, RI.start, m, Nat.zero_le _, Nat.zero_le _, Nat.zero_le _⟩
    have hmm := run_makeMap (P := Ybaz.prog) 120 wc
    clear HF
    go_upto_region 4 with fail
    clear hmm
    generalize (wc.alloc (.map #[] 0)) = w1 at *
    generalize wc.heap.size = TM at *
    go_wp2
    go_loopg [8, 33] M (fun gk s8 s wr => ∃ (i ids : Nat), i ≤ M ∧ s8 = .int .i64 (ids : Int) ∧ s = .int .i64 (i : Int) ∧ gk = M - i ∧ Hid (RS kd tx ky wt num w LB LO HI RB CB TM NK i ids wr))
    case atStart => exact ⟨0, 0, Nat.zero_le _, rfl, rfl, rfl, HS0⟩
    case round =>
      clear HS0
      obtain ⟨i, ids, hi, rfl, rfl, rfl, HR⟩ := hrel
      by_cases hlt : i < M
      · have i1 : (i : Int) < (M : Int) := by omega
        have i2 : (i : Int).toNat = i := by omega
        obtain ⟨mn1, mn2, cls, idf, W, R, own, ct, cm, bt, sw, sr, ri, rm, b1, b2, b3⟩ := HR.out
        obtain ⟨e0, e1, e2, e3, e4, e5, e6⟩ := (HO.out.keep rm.k id).cell i hlt
        have HHK : Hid _ := HO.out.hk i hlt
        have ht := HO.out.ht i hlt
        have kA := Keep.alloc (fun _ => False) wr (.cells #[.int .u8 (kd i : Int), .int .u64 (tx i : Int), .string (kstr (ky i)), .string ⟨#[]⟩, .bool false, .int .u64 0, .slice none 0 0] 34)
        have HM : Hid _ := rm.quiet kA
        have HRI : Hid _ := ri
        have HB : Hid (mn1 ≤ 2001 * i ∧ mn2 ≤ i ∧ ids ≤ i) := ⟨b1, b2, b3⟩
        have b4 : (ids : Int) ≤ 2000 := by omega
        have hL := HM.out.mp.look keyed31 Ybaz.underlying120 (zero121 _) (tkey (tx i) ht.2)
        rw [intM_int, ptF_at, show ((bt (tx i)).map (fun (b : Nat) => Value.pointer (some ⟨b, 0, none⟩))).getD (.pointer none) = .pointer ((bt (tx i)).map (fun (b : Nat) => (⟨b, 0, none⟩ : Addr))) by cases bt (tx i) <;> rfl] at hL
        obtain ⟨pb, hpb⟩ : ∃ pb, Hid (pb = (bt (tx i)).map (fun (b : Nat) => (⟨b, 0, none⟩ : Addr))) := ⟨_, rfl⟩
        rw [← hpb.out] at hL
        have HB3 : Hid _ := heap_alloc_new wr (.cells #[.int .u8 (kd i : Int), .int .u64 (tx i : Int), .string (kstr (ky i)), .string ⟨#[]⟩, .bool false, .int .u64 0, .slice none 0 0] 34)
        clear kA rm ri HR b1 b2 b3
        go_upto_region 8 with fail
        clear hL e0 e1 e2 e3 e4 e5 e6
        generalize (wr.alloc (.cells #[.int .u8 (kd i : Int), .int .u64 (tx i : Int), .string (kstr (ky i)), .string ⟨#[]⟩, .bool false, .int .u64 0, .slice none 0 0] 34)) = w3 at *
        generalize wr.heap.size = bO at *
        go_upto_if 42 with fail
        go_cut [8, 11] from 42 to 51 (fun s8 s11 wx => ∃ ids' b : Nat, s8 = .int .i64 (ids' : Int) ∧ s11 = .pointer (some ⟨b, 0, none⟩) ∧ Hid (RO kd tx ky wt num w LB LO HI RB CB TM NK i ids' (tx i) b wx) ∧ Hid (wx.heap[bO]? = some (.cells #[.int .u8 (kd i : Int), .int .u64 (tx i : Int), .string (kstr (ky i)), .string ⟨#[]⟩, .bool false, .int .u64 0, .slice none 0 0] 34)))
        case first => as_aux_lemma =>
          have e1 : w3.cell? ⟨bO, 1, none⟩ = some (.int .u64 (tx i : Int)) := cell_of _ _ 1 _ _ HB3.out
          have hbO := heap_lt HB3.out
          cases hbt : bt (tx i) with
          | none =>
            obtain rfl : pb = none := by rw [hpb.out, hbt]; rfl
            have hid0 := (HM.out.bi (tx i)).1 hbt
            have kB := Keep.alloc (fun _ => False) w3 (.cells #[.int .i64 ((ids : Int) + 1), .slice none 0 0, .slice none 0 0] 124)
            obtain ⟨w5, hp, hm5, hk5, _⟩ := (HM.out.mp.keep kB id).put keyed31 Ybaz.underlying120 (by have := HB.out; unfold maxLen; omega) (tkey (tx i) ht.2) (.pointer (some ⟨w3.heap.size, 0, none⟩))
            rw [intM_put, ptF_put] at hm5
            have e1' : (w3.alloc (.cells #[.int .i64 ((ids : Int) + 1), .slice none 0 0, .slice none 0 0] 124)).cell? ⟨bO, 1, none⟩ = some (.int .u64 (tx i : Int)) := (kB.cell ⟨bO, 1, none⟩ hbO id).trans e1
            have HF1 : Hid (RO kd tx ky wt num w LB LO HI RB CB TM NK i (ids + 1) (tx i) w3.heap.size w5) := by
              have nil := HRI.out.nil _ hid0
              have hb1 : (w3.alloc (.cells #[.int .i64 ((ids : Int) + 1), .slice none 0 0, .slice none 0 0] 124)).heap[w3.heap.size]? = some (.cells #[.int .i64 ((ids + 1 : Nat) : Int), .slice none 0 0, .slice none 0 0] 124) := heap_alloc_new _ _
              have r := HM.out.openT (t := tx i) (id := ids + 1) (by omega) nil.1 nil.2 kB (Nat.le_refl _) hb1 hk5 hm5
              have := HB.out
              exact ⟨_, _, _, _, _, _, _, _, _, _, _, _, HRI.out.openT hid0, r, by omega, by omega, by omega, put1_at _ _ _⟩
            have HF2 : Hid (w5.heap[bO]? = some (.cells #[.int .u8 (kd i : Int), .int .u64 (tx i : Int), .string (kstr (ky i)), .string ⟨#[]⟩, .bool false, .int .u64 0, .slice none 0 0] 34)) := hk5.at (kB.at HB3.out id) (fun e => (HM.out.mp.not_cells HB3.out) e)
            clear hm5 hk5 kB hid0 hbt HM HRI HB HB3 hpb
            go_wp2
            go_meet
            exact ⟨ids + 1, w3.heap.size, by go_num, rfl, HF1, HF2⟩
          | some b =>
            obtain rfl : pb = some ⟨b, 0, none⟩ := by rw [hpb.out, hbt]; rfl
            have HF1 : Hid (RO kd tx ky wt num w LB LO HI RB CB TM NK i ids (tx i) b w3) := by
              have := HB.out
              exact ⟨_, _, _, _, _, _, _, _, _, _, _, _, HRI.out, HM.out, by omega, by omega, by omega, hbt⟩
            clear hbt HM HRI HB hpb
            go_wp2
            go_meet
            exact ⟨ids, b, rfl, rfl, HF1, HB3⟩
        case rest => as_aux_lemma =>
          clear HM HRI HB hpb HB3
          clear mn1 mn2 cls idf W R own ct cm bt sw sr
          obtain ⟨ids', b, rfl, rfl, HR, HB3⟩ := hcut
          rename_i wz0
          obtain ⟨mn1, mn2, cls, idf, W, R, own, ct, cm, bt, sw, sr, ri, rm, b1, b2, b3, hbt⟩ := HR.out
          clear HR
          have hid : idf (tx i) ≠ 0 := fun q => by rw [(rm.bi _).2 q] at hbt; simp at hbt
          have hid' := ri.idn (tx i)
          have hsz := ri.sz (tx i)
          have HRI : Hid _ := ri
          have HM : Hid _ := rm
          have HB : Hid (mn1 ≤ 2001 * i ∧ mn2 ≤ i + 1 ∧ ids' ≤ i + 1) := ⟨b1, b2, b3⟩
          have HBT : Hid _ := hbt
          have b5 : (ids' : Int) ≤ 2001 := by omega
          have b6 : ((idf (tx i) : Nat) : Int) ≤ 2001 := by omega
          clear ri rm b1 b2 b3 hbt b4
          have e0 : wc.cell? ⟨bO, 0, none⟩ = some (.int .u8 (kd i : Int)) := cell_of _ _ 0 _ _ HB3.out
          have e1 : wc.cell? ⟨bO, 1, none⟩ = some (.int .u64 (tx i : Int)) := cell_of _ _ 1 _ _ HB3.out
          have e2 : wc.cell? ⟨bO, 2, none⟩ = some (.string (kstr (ky i))) := cell_of _ _ 2 _ _ HB3.out
          have e3 : wc.cell? ⟨bO, 3, none⟩ = some (.string ⟨#[]⟩) := cell_of _ _ 3 _ _ HB3.out
          have e4 : wc.cell? ⟨bO, 4, none⟩ = some (.bool false) := cell_of _ _ 4 _ _ HB3.out
          have e5 : wc.cell? ⟨bO, 5, none⟩ = some (.int .u64 0) := cell_of _ _ 5 _ _ HB3.out
          have e6 : wc.cell? ⟨bO, 6, none⟩ = some (.slice none 0 0) := cell_of _ _ 6 _ _ HB3.out
          by_cases hend : Fin (kd i)
          · go_upto_region 12 with fail
            go_cut [59] from 52 to 58 (fun s wx => s = .bool true ∧ wx = wc)
            case first => as_aux_lemma =>
              clear HRI HM HB HBT HB3
              rcases hend with he | he
              · have kq : (kd i : Int) = 99 := by omega
                go_wp2
                go_meet
                exact ⟨rfl, rfl⟩
              · have kq : (kd i : Int) = 97 := by omega
                go_wp2
                go_meet
                exact ⟨rfl, rfl⟩
            case rest => as_aux_lemma =>
              obtain ⟨rfl, rfl⟩ := hcut
              have HE : Hid _ := hend
              have os := HM.out.st (tx i) b HBT.out
              have o1 : wc.cell? ⟨b, 1, none⟩ = some (.slice (sw (tx i)).1 (W (tx i)).length (sw (tx i)).2) := cell_of _ _ 1 _ _ os.blk
              obtain ⟨wa, hwa⟩ : ∃ a, Hid (a = (sw (tx i)).1) := ⟨_, rfl⟩
              rw [← hwa.out] at o1
              have HT : Hid (∀ y, own y = if y ∈ (W (tx i)).take 0 then 0 else own y) := fun y => by simp
              have hwl : ((W (tx i)).length : Int) ≤ 2000 := by omega
              have hrl : ((R (tx i)).length : Int) ≤ 2000 := by omega
              clear e0 e1 e2 e3 e4 e5 e6 os hend
              go_wp2
              clear o1
              go_loopg [65] (W (tx i)).length (fun gk s wr => ∃ (q : Nat) (own' : Nat → Nat), q ≤ (W (tx i)).length ∧ s = .int .i64 (q : Int) ∧ gk = (W (tx i)).length - q ∧ Hid (RM w LB LO HI RB CB TM NK mn1 mn2 cls idf W R own' ct cm bt sw sr wr) ∧ Hid (∀ y, own' y = if y ∈ (W (tx i)).take q then 0 else own y) ∧ Hid (wr.heap[bO]? = some (.cells #[.int .u8 (kd i : Int), .int .u64 (tx i : Int), .string (kstr (ky i)), .string ⟨#[]⟩, .bool false, .int .u64 0, .slice none 0 0] 34)))
              case atStart => exact ⟨0, own, Nat.zero_le _, rfl, rfl, HM, HT, HB3⟩
              case round =>
                clear HM HT HB3
                obtain ⟨q, own', hq, rfl, rfl, HM, HT, HB3⟩ := hrel
                by_cases hql : q < (W (tx i)).length
                · as_aux_lemma =>
                  have q1 : (q : Int) < ((W (tx i)).length : Int) := by omega
                  have q2 : (q : Int).toNat = q := by omega
                  obtain ⟨g, hg, _, hrow⟩ := (HM.out.st (tx i) b HBT.out).wv.blk (by omega)
                  rw [← hwa.out] at hg
                  subst hg
                  have c0 : wr.cell? ⟨g, q, none⟩ = some (.int .i64 (((W (tx i)).getD q 0 : Nat) : Int)) := by
                    have := hrow.cell q 0 hql (by omega)
                    simpa [wcell] using this
                  have hmem : (W (tx i)).getD q 0 ∈ W (tx i) := by
                    rw [List.getD_eq_getElem?_getD, List.getElem?_eq_getElem hql]
                    exact List.getElem_mem hql
                  have hxl : (W (tx i)).getD q 0 < NK := by
                    obtain ⟨a, ha, _, h3, h4, _⟩ := (HRI.out.wm (tx i) _).1 hmem
                    rw [← h4]
                    exact HS.out.nlt (ky a) (HH.out.hky a (by omega) (.inr h3)) (HH.out.hwr a (by omega) h3)
                  have HTK : Hid ((W (tx i)).take (q + 1) = (W (tx i)).take q ++ [(W (tx i)).getD q 0]) := by
                    rw [List.take_add_one, List.getElem?_eq_getElem hql, List.getD_eq_getElem?_getD, List.getElem?_eq_getElem hql]
                    rfl
                  generalize (W (tx i)).getD q 0 = x at *
                  have HC := fun (_ : Unit) => (lwset_any LB LO HI NK x 0 own' wr HM.out.lw hnk hxl).mono (fun e w' h => (⟨h.1, h.2⟩ : e = .returned (.tuple #[]) ∧ Hid (LWend wr w' LB LO HI NK (ownSet own' x 0))))
                  clear hrow hmem
                  go_wp2_with (go_at_call 44; refine (HC ()).mono ?_; rintro e w5 ⟨rfl, HL5⟩)
                  clear HC c0
                  have HM5 : Hid _ := HM.out.setOwn HL5.out
                  have HB5 : Hid _ := HL5.out.2.at HB3.out (fun q => by
                    have := HM.out.lw.notop (by omega) HB3.out
                    rcases q with q | q
                    · exact this.1 q
                    · exact this.2 q)
                  have HT5 : Hid (∀ y, ownSet own' x 0 y = if y ∈ (W (tx i)).take (q + 1) then 0 else own y) := fun y => by
                    rw [HTK.out]
                    unfold ownSet
                    by_cases e : y = x
                    · simp [e]
                    · rw [if_neg e, HT.out y]
                      simp [e]
                  clear HM HT HB3 HL5 HTK
                  go_roundg ((W (tx i)).length - (q + 1))
                  case measure => omega
                  case rel => exact ⟨q + 1, _, by omega, by go_num, rfl, HM5, HT5, HB5⟩
                · as_aux_lemma =>
                  obtain rfl : q = (W (tx i)).length := by omega
                  have HT2 : Hid (∀ y, own' y = if own y = idf (tx i) then 0 else own y) := fun y => by
                    rw [HT.out y, List.take_length]
                    by_cases e : own y = idf (tx i)
                    · rw [if_pos ((HRI.out.wo _ _ hid).2 e), if_pos e]
                    · rw [if_neg (fun r => e ((HRI.out.wo _ _ hid).1 r)), if_neg e]
                  have q1 : ¬ ((W (tx i)).length : Int) < ((W (tx i)).length : Int) := by omega
                  have o2 : wr.cell? ⟨b, 2, none⟩ = some (.slice (sr (tx i)).1 (R (tx i)).length (sr (tx i)).2) := cell_of _ _ 2 _ _ (HM.out.st (tx i) b HBT.out).blk
                  obtain ⟨ra, hra⟩ : ∃ a, Hid (a = (sr (tx i)).1) := ⟨_, rfl⟩
                  rw [← hra.out] at o2
                  have HC0 : Hid (∀ y s, ct y s = if s = idf (tx i) then ((R (tx i)).drop 0).count y else ct y s) := fun y s => by
                    by_cases e : s = idf (tx i)
                    · rw [if_pos e, e, List.drop_zero]; exact HRI.out.rc _ _ hid
                    · rw [if_neg e]
                  clear HT
                  go_wp2
                  clear o2
                  go_loopg [78] (R (tx i)).length (fun gk s wr => ∃ (q : Nat) (cls' : Nat → Nat) (cm' : Nat → Option Nat) (ct' : Nat → Nat → Nat), q ≤ (R (tx i)).length ∧ s = .int .i64 (q : Int) ∧ gk = (R (tx i)).length - q ∧ Hid (RM w LB LO HI RB CB TM NK (mn1 + q) mn2 cls' idf W R own' ct' cm' bt sw sr wr) ∧ Hid (∀ y s, ct' y s = if s = idf (tx i) then ((R (tx i)).drop q).count y else ct y s) ∧ Hid (wr.heap[bO]? = some (.cells #[.int .u8 (kd i : Int), .int .u64 (tx i : Int), .string (kstr (ky i)), .string ⟨#[]⟩, .bool false, .int .u64 0, .slice none 0 0] 34)))
                  case atStart => exact ⟨0, cls, cm, ct, Nat.zero_le _, rfl, rfl, HM, HC0, HB3⟩
                  case round =>
                    clear HM HC0 HB3
                    obtain ⟨q, cls', cm', ct', hq, rfl, rfl, HM, HC0, HB3⟩ := hrel
                    by_cases hql : q < (R (tx i)).length
                    · as_aux_lemma =>
                      have q3 : (q : Int) < ((R (tx i)).length : Int) := by omega
                      have q2 : (q : Int).toNat = q := by omega
                      obtain ⟨g, hg, _, hrow⟩ := (HM.out.st (tx i) b HBT.out).rv.blk (by omega)
                      rw [← hra.out] at hg
                      subst hg
                      have c0 : wr.cell? ⟨g, q * 2, none⟩ = some (.int .i64 (((R (tx i)).getD q 0 : Nat) : Int)) := by
                        have := hrow.cell q 0 hql (by omega)
                        simpa [rcell] using this
                      have c1 : wr.cell? ⟨g, q * 2 + 1, none⟩ = some (.int .i64 ((((R (tx i)).getD q 0 : Nat) : Int) + 1)) := by
                        have := hrow.cell q 1 hql (by omega)
                        simpa [rcell] using this
                      have hmem : (R (tx i)).getD q 0 ∈ R (tx i) := by
                        rw [List.getD_eq_getElem?_getD, List.getElem?_eq_getElem hql]
                        exact List.getElem_mem hql
                      have hxl : (R (tx i)).getD q 0 < NK := by
                        obtain ⟨a, ha, _, h3, h3', h4, _⟩ := (HRI.out.rm (tx i) _).1 hmem
                        rw [← h4]
                        exact HS.out.nlt (ky a) (HH.out.hky a (by omega) (.inl h3)) h3'
                      have hdr : (R (tx i)).drop q = (R (tx i)).getD q 0 :: (R (tx i)).drop (q + 1) := by
                        rw [List.drop_eq_getElem_cons hql, List.getD_eq_getElem?_getD, List.getElem?_eq_getElem hql]
                        rfl
                      have HTK : Hid _ := hdr
                      generalize (R (tx i)).getD q 0 = x at *
                      have hct : ct' x (idf (tx i)) = ((R (tx i)).drop (q + 1)).count x + 1 := by
                        rw [HC0.out, if_pos rfl, HTK.out]; simp
                      have hcl : ((R (tx i)).drop (q + 1)).count x ≤ 2000 := by
                        have h1 := List.count_le_length (a := x) (l := (R (tx i)).drop (q + 1))
                        have h2 : ((R (tx i)).drop (q + 1)).length ≤ (R (tx i)).length := by simp
                        omega
                      have x1 : (x : Int) ≤ 3 := by omega
                      have kA := Keep.alloc (fun _ => False) wr (.cells #[.int .i64 (x : Int), .int .i64 ((x : Int) + 1)] 126)
                      have HM4 : Hid _ := HM.out.quiet kA
                      have HB4 : Hid _ := kA.at HB3.out id
                      have HX4 : Hid _ := heap_alloc_new wr (.cells #[.int .i64 (x : Int), .int .i64 ((x : Int) + 1)] 126)
                      have HN4 : Hid (∀ c, oB CB NK cm' c → c ≠ wr.heap.size) := fun c hc => by
                        have := (HM.out.new c (by rw [HM.out.cO c hc]; omega)).2
                        omega
                      clear hrow hmem hdr kA HM HB3
                      go_upto_region 21 with fail
                      clear c0 c1
                      generalize (wr.alloc (.cells #[.int .i64 (x : Int), .int .i64 ((x : Int) + 1)] 126)) = w4 at *
                      generalize wr.heap.size = bX at *
                      have h0 : w4.drew.cell? ⟨b, 0, none⟩ = some (.int .i64 (idf (tx i) : Int)) ∧ w4.drew.cell? ⟨bX, 0, none⟩ = some (.int .i64 (x : Int)) ∧ w4.drew.cell? ⟨bX, 1, none⟩ = some (.int .i64 ((x : Int) + 1)) := ⟨cell_of _ _ 0 _ _ (HM4.out.st (tx i) b HBT.out).blk, cell_of _ _ 0 _ _ HX4.out, cell_of _ _ 1 _ _ HX4.out⟩
                      have HC : Hid (∀ v : World, Keep (fun _ => False) w4 v → Calls Ybaz.prog 45 #[.pointer (some ⟨RB, 0, none⟩), .int .i64 (idf (tx i) : Int), .int .i64 (x : Int), .int .i64 ((x : Int) + 1), .int .i64 (-1)] v fun e w' => e = .returned (.tuple #[]) ∧ (w'.cell? ⟨b, 0, none⟩ = some (.int .i64 (idf (tx i) : Int)) ∧ w'.cell? ⟨bX, 0, none⟩ = some (.int .i64 (x : Int)) ∧ w'.cell? ⟨bX, 1, none⟩ = some (.int .i64 ((x : Int) + 1)))
                          ∧ Hid (∃ cls2 cm2, RM w LB LO HI RB CB TM NK (mn1 + q + 1) mn2 cls2 idf W R own' (ctSet ct' x (idf (tx i)) (((R (tx i)).drop (q + 1)).count x)) cm2 bt sw sr w') ∧ Hid (w'.heap[bO]? = some (.cells #[.int .u8 (kd i : Int), .int .u64 (tx i : Int), .string (kstr (ky i)), .string ⟨#[]⟩, .bool false, .int .u64 0, .slice none 0 0] 34))) := fun v kv => by
                        have HMv := HM4.out.quiet kv
                        have hXv := kv.at HX4.out id
                        have hBv := kv.at HB4.out id
                        refine (oradd_any RB CB NK (mn1 + q) x (idf (tx i)) (((R (tx i)).drop (q + 1)).count x) (-1) cm' ct' v HMv.od hnk hxl (by omega) (by have := HB.out; omega) (by rw [hct]; omega) ⟨by omega, by omega⟩).mono ?_
                        rintro e w' ⟨rfl, ho⟩
                        obtain ⟨cls2, cm2, r2⟩ := HMv.rd ho
                        obtain ⟨_, _, k, _⟩ := ho
                        have hX' := k.at hXv (fun r => HN4.out bX r rfl)
                        exact ⟨rfl, ⟨cell_of _ _ 0 _ _ (r2.st (tx i) b HBT.out).blk, cell_of _ _ 0 _ _ hX', cell_of _ _ 1 _ _ hX'⟩, ⟨cls2, cm2, r2⟩, k.at hBv (HMv.od.notop (by decide) hBv)⟩
                      clear HM4 HB4 HX4 HN4
                      go_region_held3 (fun w' => w'.cell? ⟨b, 0, none⟩ = some (.int .i64 (idf (tx i) : Int)) ∧ w'.cell? ⟨bX, 0, none⟩ = some (.int .i64 (x : Int)) ∧ w'.cell? ⟨bX, 1, none⟩ = some (.int .i64 ((x : Int) + 1))) (first | assumption | exact h0) (first
                        | (go_at_call 45; refine (HC.out _ ?_).mono ?_; (exact ⟨rfl, rfl, rfl, Nat.le_refl _, fun _ _ _ => rfl⟩); rintro e w5 ⟨rfl, hS5, HM5, HB5⟩))
                      clear HC hS5 h0
                      obtain ⟨cls2, cm2, rm2⟩ := HM5.out
                      have HM6 : Hid _ := rm2
                      have HC5 : Hid (∀ y s, ctSet ct' x (idf (tx i)) (((R (tx i)).drop (q + 1)).count x) y s = if s = idf (tx i) then ((R (tx i)).drop (q + 1)).count y else ct y s) := fun y s => by
                        unfold ctSet
                        by_cases e : s = idf (tx i)
                        · rw [if_pos e]
                          by_cases e2 : y = x
                          · rw [if_pos ⟨e2, e⟩, e2]
                          · rw [if_neg (fun r => e2 r.1), HC0.out, if_pos e, HTK.out, List.count_cons]
                            have : ¬ x = y := fun r => e2 r.symm
                            simp [this]
                        · rw [if_neg (fun r => e r.2), if_neg e, HC0.out, if_neg e]
                      clear rm2 HM5 HTK HC0 hct hcl
                      go_wp2
                      go_roundg ((R (tx i)).length - (q + 1))
                      case measure => omega
                      case rel => exact ⟨q + 1, cls2, cm2, _, by omega, by go_num, rfl, HM6, HC5, HB5⟩
                    · as_aux_lemma =>
                      obtain rfl : q = (R (tx i)).length := by omega
                      have q3 : ¬ ((R (tx i)).length : Int) < ((R (tx i)).length : Int) := by omega
                      have e1 : wr.cell? ⟨bO, 1, none⟩ = some (.int .u64 (tx i : Int)) := cell_of _ _ 1 _ _ HB3.out
                      obtain ⟨w5, hd5, hm5, hk5⟩ := HM.out.mp.del2 keyed31 Ybaz.underlying120 (tkey (tx i) ht.2) 0
                      rw [intM_del, ptF_del] at hm5
                      have HF : Hid (RS kd tx ky wt num w LB LO HI RB CB TM NK (i + 1) ids' w5) := by
                        have := HB.out
                        exact ⟨_, _, _, _, _, _, _, _, _, _, _, _, HRI.out.endT hid rfl HE.out HT2.out (fun y s => by rw [HC0.out y s]; simp), HM.out.dropT hk5 hm5, by omega, by omega, by omega⟩
                      clear HM hm5 hk5 HC0 HB3 HRI HT2
                      go_wp2
                      clear hd5 e1
                      go_roundg (M - (i + 1))
                      case measure => omega
                      case rel => exact ⟨i + 1, ids', by omega, rfl, by go_num, rfl, HF⟩
          · have hend' : Hid _ := hend
            have hrw : (kd i = 114 ∨ kd i = 119) ∧ ky i < 3 := by
              have := HHK.out
              unfold Fin at hend
              omega
            have kq1 : ((kd i : Int) == 99) = false := by have := hrw.1; simp; omega
            have kq2 : ((kd i : Int) == 97) = false := by have := hrw.1; simp; omega
            have HC := fun (_ : Unit) => (span_any KS NK wt num sx mb sa sc mn (kd i) (tx i : Int) (ky i) wc (HS.out.keep HM.out.k id id (fun _ _ q => q)) hrw.1 hrw.2).mono (fun e w' h => (⟨h.1, h.2⟩ : RetSpan wt num (ky i) e ∧ Hid (Keep (fun _ => False) wc w')))
            have hbO := heap_lt HB3.out
            clear hend
            go_upto_region 25 with (go_at_call 37; refine (HC ()).mono ?_; rintro e w4 ⟨⟨lo, hi', rfl, hsp⟩, HK4⟩)
            clear HC
            have HM4 : Hid _ := HM.out.quiet HK4.out
            have e0' : w4.cell? ⟨bO, 0, none⟩ = some (.int .u8 (kd i : Int)) := (HK4.out.cell ⟨bO, 0, none⟩ hbO id).trans e0
            have HB4 : Hid _ := HK4.out.at HB3.out id
            clear e0 e1 e2 e3 e4 e5 e6 HK4 HM HB3 kq1 kq2
            have ob : w4.heap[b]? = some (.cells #[.int .i64 (idf (tx i) : Int), .slice (sw (tx i)).1 (W (tx i)).length (sw (tx i)).2, .slice (sr (tx i)).1 (R (tx i)).length (sr (tx i)).2] 124) := (HM4.out.st (tx i) b HBT.out).blk
            have o0 : w4.cell? ⟨b, 0, none⟩ = some (.int .i64 (idf (tx i) : Int)) := cell_of _ _ 0 _ _ ob
            clear ob
            rcases hsp with ⟨hw, rfl, rfl⟩ | ⟨hw, rfl, rfl⟩
            · have hnl := HS.out.nlt (ky i) hrw.2 hw
              generalize hx : num (ky i) = x at hnl ⊢
              have HX : Hid _ := hx
              clear hx
              have xc : ((x + 1 : Nat) : Int) = (x : Int) + 1 := by omega
              rw [xc]
              clear xc
              have hox : own x ≤ 3000 := by
                by_cases q : own x = 0
                · omega
                · obtain ⟨s, hs⟩ := HRI.out.ow x q
                  have := HRI.out.idn s
                  omega
              have hcx : ct x (idf (tx i)) ≤ 2000 := by
                rw [HRI.out.rc (tx i) x hid]
                have := List.count_le_length (a := x) (l := R (tx i))
                omega
              have hid3 : idf (tx i) ≤ 3000 := by omega
              by_cases hok : own x = 0 ∨ own x = idf (tx i)
              · have HC := fun (_ : Unit) => (lwonly_any LB LO HI NK x (idf (tx i)) own w4 HM4.out.lw hnk hnl hox).mono (fun e w' h => (⟨by rw [h.1, decide_eq_true hok], h.2⟩ : e = .returned (.bool true) ∧ Hid (Keep (fun _ => False) w4 w')))
                go_upto_region 27 with (go_at_call 46; refine (HC ()).mono ?_; rintro e w5 ⟨rfl, HK5⟩)
                clear HC o0
                have HOK : Hid _ := hok
                clear hok
                have e0'' : w5.cell? ⟨bO, 0, none⟩ = some (.int .u8 (kd i : Int)) := (HK5.out.cell ⟨bO, 0, none⟩ (heap_lt HB4.out) id).trans e0'
                have HM5 : Hid _ := HM4.out.quiet HK5.out
                have HB5 : Hid _ := HK5.out.at HB4.out id
                clear HM4 HB4 HK5 e0'
                have hwH : Hid _ := hw
                clear hw
                by_cases hk : kd i = 119
                · have kq3 : (kd i : Int) = 119 := by omega
                  have HC := fun (_ : Unit) => (oronly_any RB CB NK mn1 x (idf (tx i)) cm ct w5 HM5.out.od hnk hnl hid3 (by have := HB.out; omega)).mono (fun e w' h => (⟨h.1, h.2⟩ : RetOnly (ct x) (idf (tx i)) e ∧ Hid (Keep (fun _ => False) w5 w')))
                  have o0 : w5.cell? ⟨b, 0, none⟩ = some (.int .i64 (idf (tx i) : Int)) := cell_of _ _ 0 _ _ (HM5.out.st (tx i) b HBT.out).blk
                  go_upto_if 144 with (go_at_call 47; refine (HC ()).mono ?_; rintro e w6 ⟨⟨r, rfl, hr⟩, HK6⟩)
                  clear HC o0 e0'' kq3
                  have HM6 : Hid _ := HM5.out.quiet HK6.out
                  clear HM5 HB5 HK6
                  cases r with
                  | false =>
                    have HF : Hid (RetRig kd tx ky M (.returned (.bool false))) := ⟨false, rfl, by
                      constructor
                      · intro q; simp at q
                      · intro q
                        have h0 : ¬ OnlyR (ct x) (idf (tx i)) := fun r => by have := hr.2 r; simp at this
                        exact absurd (HRI.out.fault2 HH.out hlt rfl hk (by rw [HX.out]; exact h0)) (q i hlt)⟩
                    have HK6 : Hid _ := HM6.out.k
                    clear HM6 HRI hr
                    go_wp2
                    go_ret
                    exact ⟨HF.out, HK6.out⟩
                  | true =>
                    have HOR : Hid _ := hr.1 rfl
                    clear hr
                    have os := HM6.out.st (tx i) b HBT.out
                    have o0 : w6.cell? ⟨b, 0, none⟩ = some (.int .i64 (idf (tx i) : Int)) := cell_of _ _ 0 _ _ os.blk
                    have hbl := heap_lt os.blk
                    clear os
                    have HC : Hid (∀ v : World, Keep (fun _ => False) w6 v → Calls Ybaz.prog 48 #[.pointer (some ⟨LB, 0, none⟩), .int .i64 (x : Int)] v fun e w' => e = .returned (.int .i64 (own x : Int)) ∧ (w'.cell? ⟨b, 0, none⟩ = some (.int .i64 (idf (tx i) : Int)) ∧ Hid (Keep (fun _ => False) w6 w'))) := fun v kv => by
                      refine (lwat_any LB LO HI NK x own v (HM6.out.lw.keep kv id id id) hnk hnl).mono ?_
                      rintro e w' ⟨rfl, k⟩
                      have kk := kv.trans k (fun _ q => q.elim)
                      exact ⟨rfl, (kk.cell ⟨b, 0, none⟩ hbl id).trans o0, kk⟩
                    have h0 : w6.drew.cell? ⟨b, 0, none⟩ = some (.int .i64 (idf (tx i) : Int)) ∧ Hid (Keep (fun _ => False) w6 w6.drew) := ⟨o0, (Keep.refl _ _).drew⟩
                    clear o0
                    go_upto_region 33 with fail
                    go_region_held3 (fun w' => w'.cell? ⟨b, 0, none⟩ = some (.int .i64 (idf (tx i) : Int)) ∧ Hid (Keep (fun _ => False) w6 w')) (first | assumption | exact h0) (first
                      | (go_at_call 48; refine (HC.out _ ?_).mono ?_; (go_split_ands; first | exact Hid.out (by assumption)); rintro e w7 ⟨rfl, hS7⟩))
                    have o0 := hS7.1
                    have HM7 : Hid _ := HM6.out.quiet hS7.2.out
                    clear HC h0 hS7 HM6
                    by_cases hoi : own x = idf (tx i)
                    · have kq4 : ((own x : Int) == (idf (tx i) : Int)) = true := by simp; omega
                      have HF : Hid (RS kd tx ky wt num w LB LO HI RB CB TM NK (i + 1) ids' w7) := by
                        have := HB.out
                        exact ⟨_, _, _, _, _, _, _, _, _, _, _, _, HRI.out.writeN hid rfl hk hwH.out (by rw [HX.out]; exact hoi) (by rw [HX.out]; exact HOR.out), HM7.out, by omega, by omega, by omega⟩
                      have HOI : Hid _ := hoi
                      have hoi' : (own x : Int) = (idf (tx i) : Int) := by omega
                      clear hoi HM7 HRI HOK hwH kq4
                      go_wp2
                      go_roundg (M - (i + 1))
                      case measure => omega
                      case rel => exact ⟨i + 1, ids', by omega, rfl, by go_num, rfl, HF⟩
                    · have ho0 : own x = 0 := by have := HOK.out; omega
                      have HO0 : Hid _ := ho0
                      have hoi' : ¬ (own x : Int) = (idf (tx i) : Int) := by omega
                      have hidI : ((idf (tx i) : Nat) : Int) ≠ 0 := by omega
                      clear ho0 hoi
                      have HC := fun (_ : Unit) => (lwset_any LB LO HI NK x (idf (tx i)) own w7 HM7.out.lw hnk hnl).mono (fun e w' h => (⟨h.1, h.2⟩ : e = .returned (.tuple #[]) ∧ Hid (LWend w7 w' LB LO HI NK (ownSet own x (idf (tx i))))))
                      go_upto_region 35 with (go_at_call 44; refine (HC ()).mono ?_; rintro e w8 ⟨rfl, HL8⟩)
                      clear HC o0
                      have HM8 : Hid _ := HM7.out.setOwn HL8.out
                      clear HM7 HL8
                      have os := HM8.out.st (tx i) b HBT.out
                      have ob := os.blk
                      have o1 : w8.cell? ⟨b, 1, none⟩ = some (.slice (sw (tx i)).1 (W (tx i)).length (sw (tx i)).2) := cell_of _ _ 1 _ _ ob
                      obtain ⟨g9, cap9, w9, hr9, hv9, hk9, hg9, hl9⟩ := run_push (w8.alloc (.cells #[.int .i64 (x : Int)] 3)) 62 3 62 1 8 _ Ybaz.underlying62 inf3 rfl (by decide) (by decide) (sw (tx i)).1 (W (tx i)).length (sw (tx i)).2 _ (os.wv.alloc _) ⟨w8.heap.size, 0, none⟩ 1 (fun _ => .int .i64 (x : Int)) (new1 w8 _ 3) (fun j _ => rfl) (by omega)
                      have hna : ¬ (sw (tx i)).1 = some ⟨b, 0, none⟩ := fun q => by
                        have h1 := HM8.out.cW (tx i) b b HBT.out q
                        have h2 := HM8.out.cB (tx i) b HBT.out
                        omega
                      have hb9 : w9.heap[b]? = _ := hk9.at ((Keep.alloc (fun _ => False) w8 (.cells #[.int .i64 (x : Int)] 3)).at ob id) hna
                      have c9 : w9.cell? ⟨b, 1, none⟩ = some (.slice (sw (tx i)).1 (W (tx i)).length (sw (tx i)).2) := cell_of _ _ 1 _ _ hb9
                      have f9 : w9.frozen? ⟨b, 1, none⟩ = false := free_of _ _ 1 _ _ hb9
                      obtain ⟨p1, p2, p3, p4, p5⟩ := field_push (i := 1) ob hv9 hk9 hg9 hna
                      have HF : Hid (RS kd tx ky wt num w LB LO HI RB CB TM NK (i + 1) ids' (w9.setCell ⟨b, 1, none⟩ (.slice (some ⟨g9, 0, none⟩) ((W (tx i)).length + 1) cap9))) := by
                        have := HB.out
                        have q := HRI.out.writeT hid rfl hk hwH.out (by rw [HX.out]; exact HO0.out) (by rw [HX.out]; exact HOR.out)
                        rw [HX.out] at q
                        exact ⟨_, _, _, _, _, _, _, _, _, _, _, _, q, HM8.out.wpush (t := tx i) (x := x) HBT.out p1 p2 p3 p5, by omega, by omega, by omega⟩
                      clear p1 p2 p3 p4 p5 hv9 hk9 hg9 hl9 os ob hb9 hna HM8 HRI HOK hwH
                      go_wp2
                      clear c9 f9 o1
                      generalize (w9.setCell ⟨b, 1, none⟩ (.slice (some ⟨g9, 0, none⟩) ((W (tx i)).length + 1) cap9)) = w10 at *
                      go_roundg (M - (i + 1))
                      case measure => omega
                      case rel => exact ⟨i + 1, ids', by omega, rfl, by go_num, rfl, HF⟩
                · have hk4 : kd i = 114 := by have := hrw.1; omega
                  have kq3 : ((kd i : Int) == 119) = false := by simp; omega
                  have x1 : (x : Int) < (x : Int) + 1 := by omega
                  have HC := fun (_ : Unit) => (oradd_any RB CB NK mn1 x (idf (tx i)) (ct x (idf (tx i)) + 1) 1 cm ct w5 HM5.out.od hnk hnl hid3 (by have := HB.out; omega) (by omega) ⟨by omega, by omega⟩).mono (fun e w' h => (⟨h.1, h.2⟩ : e = .returned (.tuple #[]) ∧ Hid (ORend w5 w' RB CB NK (mn1 + 1) cm (ctSet ct x (idf (tx i)) (ct x (idf (tx i)) + 1)))))
                  have o0 : w5.cell? ⟨b, 0, none⟩ = some (.int .i64 (idf (tx i) : Int)) := cell_of _ _ 0 _ _ (HM5.out.st (tx i) b HBT.out).blk
                  go_upto_region 30 with (go_at_call 45; refine (HC ()).mono ?_; rintro e w6 ⟨rfl, HO6⟩)
                  clear HC o0 e0''
                  obtain ⟨cls6, cm6, rm6⟩ := HM5.out.rd HO6.out
                  have HM6 : Hid _ := rm6
                  clear rm6 HO6 HM5 HB5
                  have os := HM6.out.st (tx i) b HBT.out
                  have ob := os.blk
                  have o2 : w6.cell? ⟨b, 2, none⟩ = some (.slice (sr (tx i)).1 (R (tx i)).length (sr (tx i)).2) := cell_of _ _ 2 _ _ ob
                  obtain ⟨g7, cap7, w7, hr7, hv7, hk7, hg7, hl7⟩ := run_push (w6.alloc (.cells #[.int .i64 (x : Int), .int .i64 ((x : Int) + 1)] 126)) 122 126 122 2 16 _ Ybaz.underlying122 inf126 rfl (by decide) (by decide) (sr (tx i)).1 (R (tx i)).length (sr (tx i)).2 _ (os.rv.alloc _) ⟨w6.heap.size, 0, none⟩ 1 (fun c => .int .i64 ((x : Nat) + (c : Nat) : Int)) (newR2 w6 x 126) (fun j _ => rfl) (by omega)
                  have hna : ¬ (sr (tx i)).1 = some ⟨b, 0, none⟩ := fun q => by
                    have h1 := HM6.out.cR (tx i) b b HBT.out q
                    have h2 := HM6.out.cB (tx i) b HBT.out
                    omega
                  have hb7 : w7.heap[b]? = _ := hk7.at ((Keep.alloc (fun _ => False) w6 (.cells #[.int .i64 (x : Int), .int .i64 ((x : Int) + 1)] 126)).at ob id) hna
                  have c7 : w7.cell? ⟨b, 2, none⟩ = some (.slice (sr (tx i)).1 (R (tx i)).length (sr (tx i)).2) := cell_of _ _ 2 _ _ hb7
                  have f7 : w7.frozen? ⟨b, 2, none⟩ = false := free_of _ _ 2 _ _ hb7
                  obtain ⟨p1, p2, p3, p4, p5⟩ := field_push (i := 2) ob hv7 hk7 hg7 hna
                  have HF : Hid (RS kd tx ky wt num w LB LO HI RB CB TM NK (i + 1) ids' (w7.setCell ⟨b, 2, none⟩ (.slice (some ⟨g7, 0, none⟩) ((R (tx i)).length + 1) cap7))) := by
                    have := HB.out
                    have q := HRI.out.readT hid rfl hk4 hwH.out (by rw [HX.out]; exact HOK.out)
                    rw [HX.out] at q
                    exact ⟨_, _, _, _, _, _, _, _, _, _, _, _, q, HM6.out.rpush (t := tx i) (x := x) HBT.out p1 p2 p3 p5, by omega, by omega, by omega⟩
                  clear p1 p2 p3 p4 p5 hv7 hk7 hg7 hl7 os ob hb7 hna HM6 HRI HOK hwH
                  go_wp2
                  clear c7 f7 o2
                  generalize (w7.setCell ⟨b, 2, none⟩ (.slice (some ⟨g7, 0, none⟩) ((R (tx i)).length + 1) cap7)) = w8 at *
                  go_roundg (M - (i + 1))
                  case measure => omega
                  case rel => exact ⟨i + 1, ids', by omega, rfl, by go_num, rfl, HF⟩
              · have HC := fun (_ : Unit) => (lwonly_any LB LO HI NK x (idf (tx i)) own w4 HM4.out.lw hnk hnl hox).mono (fun e w' h => (⟨by rw [h.1, decide_eq_false hok], h.2⟩ : e = .returned (.bool false) ∧ Hid (Keep (fun _ => False) w4 w')))
                have HF : Hid (RetRig kd tx ky M (.returned (.bool false))) := ⟨false, rfl, by
                  constructor
                  · intro q; simp at q
                  · intro q
                    have h0 : own x ≠ 0 := fun r => hok (.inl r)
                    have h1 : own x ≠ idf (tx i) := fun r => hok (.inr r)
                    exact absurd (HRI.out.fault1 HH.out hlt rfl hrw.1 hw (by rw [HX.out]; exact h0) (by rw [HX.out]; exact h1)) (q i hlt)⟩
                have HK4 : Hid _ := HM4.out.k
                clear HM4 hok HRI
                go_wp2_with (go_at_call 46; refine (HC ()).mono ?_; rintro e w5 ⟨rfl, HK5⟩)
                have HK6 : Hid _ := HK4.out.trans HK5.out (fun _ q => q.elim)
                clear HC o0 HK4 HK5
                go_ret
                exact ⟨HF.out, HK6.out⟩
            · have HC := fun (_ : Unit) => (lwonly_none LB LO HI NK (idf (tx i)) own w4 HM4.out.lw hnk).mono (fun e w' h => (⟨h.1, h.2⟩ : e = .returned (.bool true) ∧ Hid (Keep (fun _ => False) w4 w')))
              have hk : kd i = 114 := by
                rcases hrw.1 with q | q
                · exact q
                · exact absurd (HH.out.hwr i hlt q) hw
              have kq3 : ((kd i : Int) == 119) = false := by simp; omega
              go_upto_region 27 with (go_at_call 46; refine (HC ()).mono ?_; rintro e w5 ⟨rfl, HK5⟩)
              clear HC o0
              have e0'' : w5.cell? ⟨bO, 0, none⟩ = some (.int .u8 (kd i : Int)) := (HK5.out.cell ⟨bO, 0, none⟩ (heap_lt HB4.out) id).trans e0'
              have HF : Hid (RS kd tx ky wt num w LB LO HI RB CB TM NK (i + 1) ids' w5) := by
                have := HB.out
                exact ⟨_, _, _, _, _, _, _, _, _, _, _, _, HRI.out.readN HH.out hlt hk hw, HM4.out.quiet HK5.out, by omega, by omega, by omega⟩
              clear HM4 HB4 HK5 e0' HRI
              go_wp2
              go_roundg (M - (i + 1))
              case measure => omega
              case rel => exact ⟨i + 1, ids', by omega, rfl, by go_num, rfl, HF⟩
      · obtain rfl : i = M := by omega
        have q1 : ¬ (i : Int) < (i : Int) := by omega
        have HF : Hid (RetRig kd tx ky i (.returned (.bool true)) ∧ Keep (fun _ => False) w wr) := by
          obtain ⟨mn1, mn2, cls, idf, W, R, own, ct, cm, bt, sw, sr, ri, rm, _⟩ := HR.out
          exact ⟨⟨true, rfl, fun _ => ri.ok, fun _ => rfl⟩, rm.k⟩
        clear HR
        go_wp2
        go_ret
        exact HF.out
end Go.Proofs.YbulkdvbsGreat

/-
  rigorous: the open reads (newOpenReads, add, only), walked.
-/
import Derived.Test.YbulkdvbsGreatKeys
import Derived.Test.YbulkdvbsGreatWriters
namespace Go.Proofs.YbulkdvbsGreat
open Go.RowKit

theorem exec_make194 (ρ : Operand → Value) (dst : Option Tmp) (x y : Operand) (ty : TypeId) (pos : String) (after : Array Edge) (guard : Option (Nat × Bool)) : execOp ρ { dst, op := .makeSlice 194 x y, type := ty, pos, after, guard } = opMk 194 (ρ x) (ρ y) := rfl
attribute [local go_sem ↓] exec_make194
theorem inf198 : ∃ i, Ybaz.prog.info? 198 = some i ∧ i.zero = some (.map none) ∧ i.size = 1 ∧ i.bytes = 8 := inf_of (by kernel_rfl)
theorem keyed3 : Maps.Keyed Ybaz.prog 3 := Maps.int_keyed Ybaz.underlying3
theorem ikey (t : Nat) (h : t ≤ 3000) : keyOf Ybaz.prog 3 (.int .i64 (t : Int)) = some (.int .i64 (t : Int)) := by
  refine Maps.keyOf_int_mk Ybaz.underlying3 ?_
  have h1 : IntKind.i64.min ≤ 0 := by decide
  have h2 : (3000 : Int) ≤ IntKind.i64.max := by decide
  show (decide (IntKind.i64.min ≤ (t : Int)) && decide ((t : Int) ≤ IntKind.i64.max)) = true
  rw [Bool.and_eq_true, decide_eq_true_iff, decide_eq_true_iff]
  omega
/-- The reads of one key, as a map holds them. -/
def ctF (c : Nat → Nat) : Int → Option Value := fun x => if 0 ≤ x ∧ 0 < c x.toNat then some (.int .i64 (c x.toNat : Int)) else none
theorem ctF_at (c : Nat → Nat) (t : Nat) : ctF c (t : Int) = if 0 < c t then some (.int .i64 (c t : Int)) else none := by simp [ctF]
/-- The open reads, in block RB: cm the maps, ct the numbers. -/
structure ORd (w : World) (RB CB m mn : Nat) (cm : Nat → Option Nat) (ct : Nat → Nat → Nat) : Prop where
  blk : w.heap[RB]? = some (.cells #[.slice (some ⟨CB, 0, none⟩) (m + m) (m + m)] 196)
  row : Row w CB (m + m) (fun i => .map (cm i))
  ty : ∃ c, w.heap[CB]? = some (.cells c 198)
  inn : ∀ i, i < m → cm i = none
  no : ∀ x, x < m → cm (m + x) = none → ∀ t, ct x t = 0
  yes : ∀ x, x < m → ∀ b, cm (m + x) = some b → MP w 3 b mn (intM .i64 (ctF (ct x)))
  inj : ∀ x y b, x < m → y < m → cm (m + x) = some b → cm (m + y) = some b → x = y
/-- The blocks that they own. -/
def oB (CB m : Nat) (cm : Nat → Option Nat) (b : Nat) : Prop := b = CB ∨ ∃ x, x < m ∧ cm (m + x) = some b
theorem ORd.keep {w w' : World} {RB CB m mn : Nat} {cm : Nat → Option Nat} {ct : Nat → Nat → Nat} (h : ORd w RB CB m mn cm ct) {F : Nat → Prop} (k : Keep F w w') (h1 : ¬ F RB) (h2 : ∀ b, oB CB m cm b → ¬ F b) : ORd w' RB CB m mn cm ct := by
  obtain ⟨c, hc⟩ := h.ty
  exact ⟨k.at h.blk h1, h.row.keep (k.block CB (heap_lt hc) (h2 _ (.inl rfl))), ⟨c, k.at hc (h2 _ (.inl rfl))⟩, h.inn, h.no, fun x hx b hb => (h.yes x hx b hb).keep k (h2 b (.inr ⟨x, hx, hb⟩)), h.inj⟩
theorem ORd.mono {w : World} {RB CB m mn mn' : Nat} {cm : Nat → Option Nat} {ct : Nat → Nat → Nat} (h : ORd w RB CB m mn cm ct) (hn : mn ≤ mn') : ORd w RB CB m mn' cm ct :=
  ⟨h.blk, h.row, h.ty, h.inn, h.no, fun x hx b hb => (h.yes x hx b hb).mono hn, h.inj⟩
/-- What newOpenReads answers. -/
def RetOR (w w' : World) (m : Nat) (e : Ending) : Prop := ∃ RB CB, e = .returned (.pointer (some ⟨RB, 0, none⟩)) ∧ ORd w' RB CB m 0 (fun _ => none) (fun _ _ => 0) ∧ w.heap.size ≤ RB ∧ w.heap.size ≤ CB
set_option maxHeartbeats 4000000 in
set_option maxRecDepth 100000 in
theorem newOR_any (m : Nat) (w : World) (hm : m ≤ 3) : Calls Ybaz.prog 43 #[.int .i64 (m : Int)] w fun e w' => RetOR w w' m e ∧ Keep (fun _ => False) w w' := by
  have m1 : (m : Int) ≤ 3 := by omega
  have r : (opMk 194 (.int .i64 (2 * (m : Int))) (.int .i64 (2 * (m : Int)))).run Ybaz.prog w = .ok (.value (.slice (some ⟨w.heap.size, 0, none⟩) (m + m) (m + m))) (w.alloc (.cells (mc (.map none) 1 (m + m)) 198)) := by
    have := run_mkv 194 198 (.map none) 1 8 Ybaz.underlying194 inf198 (by omega) w (m + m) (by omega)
    rw [show ((m + m : Nat) : Int) = 2 * (m : Int) by omega] at this
    exact this
  have k1 := Keep.alloc (fun _ => False) w (.cells (mc (.map none) 1 (m + m)) 198)
  have k2 := Keep.alloc (fun _ => False) (w.alloc (.cells (mc (.map none) 1 (m + m)) 198)) (.cells #[.slice (some ⟨w.heap.size, 0, none⟩) (m + m) (m + m)] 196)
  have e1 : (w.alloc (.cells (mc (.map none) 1 (m + m)) 198)).heap.size = w.heap.size + 1 := World.size_alloc _ _
  have b1 := k2.at (heap_alloc_new w (.cells (mc (.map none) 1 (m + m)) 198)) id
  have b2 := heap_alloc_new (w.alloc (.cells (mc (.map none) 1 (m + m)) 198)) (.cells #[.slice (some ⟨w.heap.size, 0, none⟩) (m + m) (m + m)] 196)
  rw [e1] at b2
  have HF : Hid (RetOR w ((w.alloc (.cells (mc (.map none) 1 (m + m)) 198)).alloc (.cells #[.slice (some ⟨w.heap.size, 0, none⟩) (m + m) (m + m)] 196)) m (.returned (.pointer (some ⟨w.heap.size + 1, 0, none⟩)))) :=
    ⟨w.heap.size + 1, w.heap.size, rfl, ⟨b2, Row.made1 _ _ (m + m) (.map none) 198 rfl b1, ⟨_, b1⟩, fun _ _ => rfl, fun _ _ _ _ => rfl, fun _ _ b hb => by simp at hb, fun _ _ b _ _ hb => by simp at hb⟩, by omega, Nat.le_refl _⟩
  have HK : Hid _ := k1.trans k2 (fun _ q => q.elim)
  clear k1 k2 b1 b2 e1
  go_enter Ybaz.func43, Ybaz.ntmps43
  go_wp2
  go_ret
  exact ⟨HF.out, HK.out⟩
/-- One number turned. -/
def ctSet (ct : Nat → Nat → Nat) (x t v : Nat) : Nat → Nat → Nat := fun y s => if y = x ∧ s = t then v else ct y s
theorem ctF_put (ct : Nat → Nat → Nat) (x t v : Nat) (hv : 0 < v) : (fun z => if z = (t : Int) then some (Value.int .i64 (v : Int)) else ctF (ct x) z) = ctF (ctSet ct x t v x) := by
  funext z
  by_cases e : z = (t : Int)
  · subst e; simp [ctF, ctSet, hv]
  · simp only [e, if_false]
    unfold ctF ctSet
    by_cases h0 : 0 ≤ z
    · have : ¬ z.toNat = t := by omega
      simp [this]
    · simp [h0]
theorem ctF_del (ct : Nat → Nat → Nat) (x t : Nat) (u : Value) : (fun z => if z = (t : Int) then none else (fun z => if z = (t : Int) then some u else ctF (ct x) z) z) = ctF (ctSet ct x t 0 x) := by
  funext z
  by_cases e : z = (t : Int)
  · subst e; simp [ctF, ctSet]
  · simp only [e, if_false]
    unfold ctF ctSet
    by_cases h0 : 0 ≤ z
    · have : ¬ z.toNat = t := by omega
      simp [this]
    · simp [h0]
/-- The number of one key's reads is laid: the map's block has turned. -/
theorem ORd.turn {w w' : World} {RB CB m mn mn' : Nat} {cm : Nat → Option Nat} {ct : Nat → Nat → Nat} (h : ORd w RB CB m mn cm ct) (hn : mn ≤ mn') (x b t v : Nat) (hx : x < m) (hb : cm (m + x) = some b) (k : Keep (fun i => i = b) w w') (hm : MP w' 3 b mn' (intM .i64 (ctF (ctSet ct x t v x)))) : ORd w' RB CB m mn' cm (ctSet ct x t v) := by
  obtain ⟨c, hc⟩ := h.ty
  have y := h.yes x hx b hb
  have n1 : ¬ RB = b := y.not_cells h.blk
  have n2 : ¬ CB = b := y.not_cells hc
  refine ⟨k.at h.blk n1, h.row.keep (k.block CB (heap_lt hc) n2), ⟨c, k.at hc n2⟩, h.inn, fun z hz hn0 s => ?_, fun z hz b' hb' => ?_, h.inj⟩
  · have : ¬ z = x := fun e => by rw [e, hb] at hn0; simp at hn0
    simp only [ctSet, this, false_and, if_false]
    exact h.no z hz hn0 s
  · by_cases e : z = x
    · subst e
      rw [hb] at hb'
      simp only [Option.some.injEq] at hb'
      subst hb'
      exact hm
    · have hbb : ¬ b' = b := fun q => e (h.inj z x b hz hx (q ▸ hb') hb)
      have : ctSet ct x t v z = ct z := by funext s; simp [ctSet, e]
      rw [this]
      exact ((h.yes z hz b' hb').keep k hbb).mono hn
theorem MP.del2 {w : World} {k t e : TypeId} {b n : Nat} {m : Lit → Option Value} {key : Value} {kl : Lit} (h : MP w k b n m) (K : Maps.Keyed Ybaz.prog k) (ht : Ybaz.prog.underlying t = some (.map k e)) (hkey : keyOf Ybaz.prog k key = some kl) (ty : TypeId) :
    ∃ w', (Builtin.delete_ #[t, k] ty #[.map (some b), key]).run Ybaz.prog w = .ok (.tuple #[]) w' ∧ MP w' k b n (mdel m kl) ∧ Keep (fun i => i = b) w w' := by
  obtain ⟨w', h1, h2, h3, _⟩ := h.del K ht hkey ty
  exact ⟨w', h1, h2, h3⟩
/-- A map is laid where none was. -/
theorem ORd.lay {w : World} {RB CB m mn : Nat} {cm : Nat → Option Nat} {ct : Nat → Nat → Nat} (h : ORd w RB CB m mn cm ct) (x : Nat) (hx : x < m) (hc : cm (m + x) = none) :
    ORd ((w.setCell ⟨CB, m + x, none⟩ (.map (some w.heap.size))).alloc (.map #[] 0)) RB CB m mn (fun i => if i = m + x then some w.heap.size else cm i) ct ∧ Keep (oB CB m cm) w ((w.setCell ⟨CB, m + x, none⟩ (.map (some w.heap.size))).alloc (.map #[] 0)) ∧ ∀ b, oB CB m (fun i => if i = m + x then some w.heap.size else cm i) b → oB CB m cm b ∨ (w.heap.size ≤ b ∧ b < ((w.setCell ⟨CB, m + x, none⟩ (.map (some w.heap.size))).alloc (.map #[] 0)).heap.size) := by
  obtain ⟨c, hcc⟩ := h.ty
  have kS := Keep.setCell w ⟨CB, m + x, none⟩ (.map (some w.heap.size))
  have kA := Keep.alloc (fun _ => False) (w.setCell ⟨CB, m + x, none⟩ (.map (some w.heap.size))) (.map #[] 0)
  have hs : (w.setCell ⟨CB, m + x, none⟩ (.map (some w.heap.size))).heap.size = w.heap.size := by simp [World.setCell]
  have hmp := MP.made (w.setCell ⟨CB, m + x, none⟩ (.map (some w.heap.size))) 3
  rw [hs] at hmp
  have nRC : ¬ RB = CB := ne_of_types h.blk hcc (by decide)
  have hsz : ((w.setCell ⟨CB, m + x, none⟩ (.map (some w.heap.size))).alloc (.map #[] 0)).heap.size = w.heap.size + 1 := by rw [World.size_alloc, hs]
  have hold : ∀ y, y ≠ x → (if m + y = m + x then some w.heap.size else cm (m + y)) = cm (m + y) := fun y hne => if_neg (by omega)
  refine ⟨⟨kA.at (kS.at h.blk nRC) id, ?_, ⟨_, heap_grow _ (heap_set w CB (m + x) _ _ _ hcc)⟩, fun i hi => ?_, fun y hy hn => ?_, fun y hy b hb => ?_, fun y z b hy hz h1 h2 => ?_⟩, (kS.wide (fun _ e => .inl e)).trans kA (fun _ q => q.elim), ?_⟩
  · refine ((h.row.set (m + x) (.map (some w.heap.size)) (by omega)).keep (kA.block CB (by rw [hs]; exact heap_lt hcc) id)).congr (fun i _ => ?_)
    by_cases e : i = m + x <;> simp [e]
  · simp only [show ¬ i = m + x by omega, if_false]; exact h.inn i hi
  · by_cases e : y = x
    · subst e; simp at hn
    · have hn' := (hold y e).symm.trans hn; exact h.no y hy hn'
  · by_cases e : y = x
    · subst e
      simp only [if_true, Option.some.injEq] at hb
      subst hb
      have : intM .i64 (ctF (ct y)) = fun _ => none := by
        rw [intM_none .i64]
        congr 1
        funext z
        simp [ctF, h.no y hy hc]
      rw [this]
      exact hmp.mono (Nat.zero_le _)
    · have hb' := (hold y e).symm.trans hb
      have hm := h.yes y hy b hb'
      exact (hm.keep kS (fun q => hm.not_cells hcc q.symm)).keep kA id
  · by_cases e1 : y = x <;> by_cases e2 : z = x
    · omega
    · subst e1
      simp only [if_true, Option.some.injEq] at h1
      have := (h.yes z hz b ((hold z e2).symm.trans h2)).lt
      omega
    · subst e2
      simp only [if_true, Option.some.injEq] at h2
      have := (h.yes y hy b ((hold y e1).symm.trans h1)).lt
      omega
    · exact h.inj y z b hy hz ((hold y e1).symm.trans h1) ((hold z e2).symm.trans h2)
  · rintro b (q | ⟨y, hy, hb⟩)
    · exact .inl (.inl q)
    · by_cases e : y = x
      · subst e
        simp only [if_true, Option.some.injEq] at hb
        exact .inr ⟨by omega, by omega⟩
      · exact .inl (.inr ⟨y, hy, (hold y e).symm.trans hb⟩)
/-- Behind 'add', as a word. -/
def ORend (w w' : World) (RB CB m mn : Nat) (cm : Nat → Option Nat) (ct : Nat → Nat → Nat) : Prop := ∃ cm', ORd w' RB CB m mn cm' ct ∧ Keep (oB CB m cm) w w' ∧ ∀ b, oB CB m cm' b → oB CB m cm b ∨ (w.heap.size ≤ b ∧ b < w'.heap.size)
set_option maxHeartbeats 8000000 in
set_option maxRecDepth 100000 in
/-- openReads.add$1. -/
theorem add1_any (bR bI bB RB CB m mn x t v : Nat) (by' : Int) (cm : Nat → Option Nat) (ct : Nat → Nat → Nat) (w : World) (h : ORd w RB CB m mn cm ct) (hx : x < m) (ht : t ≤ 3000) (hmn : mn ≤ 100000000) (hv : (v : Int) = (ct x t : Int) + by') (hc : ct x t ≤ 5000 ∧ v ≤ 5000)
    (hR : w.heap[bR]? = some (.cells #[.pointer (some ⟨RB, 0, none⟩)] 118)) (hI : w.heap[bI]? = some (.cells #[.int .i64 (t : Int)] 3)) (hB : w.heap[bB]? = some (.cells #[.int .i64 by'] 3)) :
    Calls Ybaz.prog 105 #[.int .i64 ((m : Int) + (x : Int)), .int .i64 (x : Int), .int .i64 ((x : Int) + 1), .pointer (some ⟨bR, 0, none⟩), .pointer (some ⟨bI, 0, none⟩), .pointer (some ⟨bB, 0, none⟩)] w fun e w' => e = .returned (.tuple #[]) ∧ ORend w w' RB CB m (mn + 1) cm (ctSet ct x t v) := by
  have x2 : ((m : Int) + (x : Int)).toNat = m + x := by omega
  have x3 : (0 : Int) ≤ (m : Int) + (x : Int) := by omega
  have x4 : (m : Int) + (x : Int) < (m : Int) + (m : Int) := by omega
  have cR : w.cell? ⟨bR, 0, none⟩ = some (.pointer (some ⟨RB, 0, none⟩)) := cell_of _ _ 0 _ _ hR
  have c0 : w.cell? ⟨RB, 0, none⟩ = some (.slice (some ⟨CB, 0, none⟩) (m + m) (m + m)) := cell_of _ _ 0 _ _ h.blk
  have e0 := h.row.cell (m + x) (by omega)
  have f0 := h.row.free (m + x)
  have HH : Hid _ := h
  have HR : Hid _ := hR
  have HI : Hid _ := hI
  have HB : Hid _ := hB
  obtain ⟨cc, hcc⟩ := h.ty
  have nCR : CB ≠ bR := ne_of_types hcc hR (by decide)
  have nCI : CB ≠ bI := ne_of_types hcc hI (by decide)
  have nCB : CB ≠ bB := ne_of_types hcc hB (by decide)
  have nCC : CB ≠ RB := ne_of_types hcc h.blk (by decide)
  have hCl := heap_lt hcc
  have heq := run_eql_map_nil (P := Ybaz.prog) w 198 3 3 (cm (m + x)) Ybaz.underlying198
  clear h hR hI hB hcc
  go_enter Ybaz.func105, Ybaz.ntmps105
  go_upto_if 16 with fail
  go_cut [16] from 15 to 23 (fun _ wx => ∃ (cm' : Nat → Option Nat) (b : Nat), cm' (m + x) = some b ∧ Hid (ORd wx RB CB m mn cm' ct) ∧ Hid (wx.heap[bR]? = some (.cells #[.pointer (some ⟨RB, 0, none⟩)] 118)) ∧ Hid (wx.heap[bI]? = some (.cells #[.int .i64 (t : Int)] 3)) ∧ Hid (wx.heap[bB]? = some (.cells #[.int .i64 by'] 3)) ∧ Hid (Keep (oB CB m cm) w wx) ∧ Hid (∀ b, oB CB m cm' b → oB CB m cm b ∨ (w.heap.size ≤ b ∧ b < wx.heap.size)))
  case first =>
    cases hcm : cm (m + x) with
    | some b =>
      go_wp2
      go_meet
      exact ⟨cm, b, hcm, HH, HR, HI, HB, Keep.refl _ _, fun _ q => .inl q⟩
    | none =>
      have hmk := run_makeMap (P := Ybaz.prog) 198 w
      have HN : Hid _ := HH.out.lay x hx hcm
      have kS := Keep.setCell w ⟨CB, m + x, none⟩ (.map (some w.heap.size))
      have kA := Keep.alloc (fun _ => False) (w.setCell ⟨CB, m + x, none⟩ (.map (some w.heap.size))) (.map #[] 0)
      have HR2 : Hid _ := kA.at (kS.at HR.out (Ne.symm nCR)) id
      have HI2 : Hid _ := kA.at (kS.at HI.out (Ne.symm nCI)) id
      have HB2 : Hid _ := kA.at (kS.at HB.out (Ne.symm nCB)) id
      clear kS kA
      go_wp2
      go_meet
      exact ⟨_, w.heap.size, by simp, HN.out.1, HR2, HI2, HB2, HN.out.2.1, HN.out.2.2⟩
  case rest =>
    clear HH HR HI HB heq e0 f0 c0 cR
    obtain ⟨cm', b, hb, HH, HR, HI, HB, HK, HO⟩ := hcut
    have cR : wc.cell? ⟨bR, 0, none⟩ = some (.pointer (some ⟨RB, 0, none⟩)) := cell_of _ _ 0 _ _ HR.out
    have cI : wc.cell? ⟨bI, 0, none⟩ = some (.int .i64 (t : Int)) := cell_of _ _ 0 _ _ HI.out
    have cB : wc.cell? ⟨bB, 0, none⟩ = some (.int .i64 by') := cell_of _ _ 0 _ _ HB.out
    have c0 : wc.cell? ⟨RB, 0, none⟩ = some (.slice (some ⟨CB, 0, none⟩) (m + m) (m + m)) := cell_of _ _ 0 _ _ HH.out.blk
    have e0 := HH.out.row.cell (m + x) (by omega)
    rw [hb] at e0
    have hy := (HH.out.yes x hx b hb).keep ((Keep.refl (fun _ => False) wc).drew) id
    have hL := hy.look (t := 198) keyed3 Ybaz.underlying198 (zero3 _) (ikey t ht)
    have hL2 : (intM .i64 (ctF (ct x)) (.int .i64 (t : Int))).getD (.int .i64 0) = .int .i64 (ct x t : Int) := by
      rw [intM_int, ctF_at]
      by_cases e : 0 < ct x t
      · simp [e]
      · have : ct x t = 0 := by omega
        simp [this]
    rw [hL2] at hL
    have hw1 : IntKind.i64.wrap ((ct x t : Int) + by') = (v : Int) := by rw [IntKind.wrap_i64]; omega
    obtain ⟨w2, hr2, hm2, hk2, _⟩ := hy.put (t := 198) keyed3 Ybaz.underlying198 (by unfold maxLen; omega) (ikey t ht) (.int .i64 (v : Int))
    rw [intM_put] at hm2
    have HM2 : Hid _ := hm2
    have HK2 : Hid _ := hk2
    have hva : (ct x t : Int) + by' = (v : Int) := by omega
    have vb : (v : Int) ≤ 5000 := by omega
    have HHB : Hid _ := hb
    have HC : Hid _ := hc
    clear hL2 hm2 hk2 hy hb hv hw1 hc
    go_upto_region 2 with fail
    go_region
    have hym := HH.out.yes x hx b HHB.out
    obtain ⟨cc2, hcc2⟩ := HH.out.ty
    have kw : Keep (fun i => i = b) wc w2 := ((Keep.refl (fun i => i = b) wc).drew).trans HK2.out (fun _ q => .inl q)
    have HKW : Hid (Keep (oB CB m cm) w w2) := HK.out.trans kw (fun i (q : i = b) => by
      rcases HO.out b (.inr ⟨x, hx, HHB.out⟩) with r | r
      · rw [q]; exact .inl r
      · rw [q]; exact .inr r.1)
    have HR2 : Hid _ := kw.at HR.out (hym.not_cells HR.out)
    have HI2 : Hid _ := kw.at HI.out (hym.not_cells HI.out)
    have HRB2 : Hid _ := kw.at HH.out.blk (hym.not_cells HH.out.blk)
    have e2 : w2.cell? ⟨CB, m + x, none⟩ = some (.map (some b)) := (kw.cell ⟨CB, m + x, none⟩ (heap_lt hcc2) (hym.not_cells hcc2)).trans e0
    have HKb : Hid _ := kw
    clear cR cI cB c0 e0 hL hr2 HK2 kw hcc2 hym HK HB
    have cR : w2.cell? ⟨bR, 0, none⟩ = some (.pointer (some ⟨RB, 0, none⟩)) := cell_of _ _ 0 _ _ HR2.out
    have cI : w2.cell? ⟨bI, 0, none⟩ = some (.int .i64 (t : Int)) := cell_of _ _ 0 _ _ HI2.out
    have c0 : w2.cell? ⟨RB, 0, none⟩ = some (.slice (some ⟨CB, 0, none⟩) (m + m) (m + m)) := cell_of _ _ 0 _ _ HRB2.out
    have hL := (HM2.out.keep ((Keep.refl (fun _ => False) w2).drew) id).look (t := 198) keyed3 Ybaz.underlying198 (zero3 _) (ikey t ht)
    rw [intM_int] at hL
    simp only [if_true, Option.getD_some] at hL
    go_upto_region 3 with fail
    go_region
    have HM3 : Hid _ := HM2.out.keep ((Keep.refl (fun _ => False) w2).drew) id
    have HKb3 : Hid _ := HKb.out.drew
    have HKW3 : Hid _ := HKW.out.drew
    have HR3 : Hid (w2.drew.heap[bR]? = some (.cells #[.pointer (some ⟨RB, 0, none⟩)] 118)) := HR2.out
    have HI3 : Hid (w2.drew.heap[bI]? = some (.cells #[.int .i64 (t : Int)] 3)) := HI2.out
    have HRB3 : Hid (w2.drew.heap[RB]? = some (.cells #[.slice (some ⟨CB, 0, none⟩) (m + m) (m + m)] 196)) := HRB2.out
    have e3 : w2.drew.cell? ⟨CB, m + x, none⟩ = some (.map (some b)) := e2
    clear hL cR cI c0 e2 HM2 HKb HKW HR2 HI2 HRB2
    generalize w2.drew = w3 at *
    by_cases hv0 : v = 0
    · subst hv0
      have cR : w3.cell? ⟨bR, 0, none⟩ = some (.pointer (some ⟨RB, 0, none⟩)) := cell_of _ _ 0 _ _ HR3.out
      have cI : w3.cell? ⟨bI, 0, none⟩ = some (.int .i64 (t : Int)) := cell_of _ _ 0 _ _ HI3.out
      have c0 : w3.cell? ⟨RB, 0, none⟩ = some (.slice (some ⟨CB, 0, none⟩) (m + m) (m + m)) := cell_of _ _ 0 _ _ HRB3.out
      obtain ⟨w4, hr4, hm4, hk4⟩ := (HM3.out.keep ((Keep.refl (fun _ => False) w3).drew) id).del2 (t := 198) keyed3 Ybaz.underlying198 (ikey t ht) 0
      rw [intM_del, ctF_del] at hm4
      have HE : Hid (ORend w w4 RB CB m (mn + 1) cm (ctSet ct x t 0)) := by
        have kk : Keep (fun i => i = b) wc w4 := (HKb3.out.drew).trans hk4 (fun _ q => .inl q)
        refine ⟨cm', HH.out.turn (by omega) x b t 0 hx HHB.out kk hm4, HKW3.out.drew.trans hk4 (fun i (q : i = b) => ?_), fun b' hb' => ?_⟩
        · rcases HO.out b (.inr ⟨x, hx, HHB.out⟩) with r | r
          · rw [q]; exact .inl r
          · rw [q]; exact .inr r.1
        · rcases HO.out b' hb' with r | r
          · exact .inl r
          · exact .inr ⟨r.1, Nat.lt_of_lt_of_le r.2 kk.size⟩
      clear hm4 hk4 HM3 HKb3 HKW3 HR3 HI3 HRB3
      go_upto_region 4 with fail
      go_region
      go_wp2
      go_end0
      exact ⟨rfl, HE.out⟩
    · have hvb : ((v : Int) == 0) = false := by simpa using hv0
      have HE : Hid (ORend w w3 RB CB m (mn + 1) cm (ctSet ct x t v)) := by
        have hm4 := HM3.out
        rw [ctF_put ct x t v (by omega)] at hm4
        refine ⟨cm', HH.out.turn (by omega) x b t v hx HHB.out HKb3.out hm4, HKW3.out, fun b' hb' => ?_⟩
        rcases HO.out b' hb' with r | r
        · exact .inl r
        · exact .inr ⟨r.1, Nat.lt_of_lt_of_le r.2 HKb3.out.size⟩
      clear HM3 HKb3 HKW3 HR3 HI3 HRB3 e3
      go_wp2
      go_end0
      exact ⟨rfl, HE.out⟩
theorem cf105 (args : Array Value) (W : World) : (callFunc 105 args).run Ybaz.prog W = .ok (.enter 105 args) W := cf Ybaz.func105 (by kernel_rfl) (by kernel_rfl) args W
set_option maxHeartbeats 8000000 in
set_option maxRecDepth 100000 in
/-- openReads.add. -/
theorem oradd_any (RB CB m mn x t v : Nat) (by' : Int) (cm : Nat → Option Nat) (ct : Nat → Nat → Nat) (w : World) (h : ORd w RB CB m mn cm ct) (hm : m ≤ 3) (hx : x < m) (ht : t ≤ 3000) (hmn : mn ≤ 100000000) (hv : (v : Int) = (ct x t : Int) + by') (hc : ct x t ≤ 5000 ∧ v ≤ 5000) :
    Calls Ybaz.prog 45 #[.pointer (some ⟨RB, 0, none⟩), .int .i64 (t : Int), .int .i64 (x : Int), .int .i64 ((x : Int) + 1), .int .i64 by'] w fun e w' => e = .returned (.tuple #[]) ∧ ORend w w' RB CB m (mn + 1) cm (ctSet ct x t v) := by
  have k1 := Keep.alloc (fun _ => False) w (.cells #[.pointer (some ⟨RB, 0, none⟩)] 118)
  have k2 := Keep.alloc (fun _ => False) (w.alloc (.cells #[.pointer (some ⟨RB, 0, none⟩)] 118)) (.cells #[.int .i64 (t : Int)] 3)
  have k3 := Keep.alloc (fun _ => False) ((w.alloc (.cells #[.pointer (some ⟨RB, 0, none⟩)] 118)).alloc (.cells #[.int .i64 (t : Int)] 3)) (.cells #[.int .i64 by'] 3)
  have e1 : (w.alloc (.cells #[.pointer (some ⟨RB, 0, none⟩)] 118)).heap.size = w.heap.size + 1 := World.size_alloc _ _
  have e2 : ((w.alloc (.cells #[.pointer (some ⟨RB, 0, none⟩)] 118)).alloc (.cells #[.int .i64 (t : Int)] 3)).heap.size = w.heap.size + 2 := by rw [World.size_alloc, e1]
  have b1 := k3.at (k2.at (heap_alloc_new w (.cells #[.pointer (some ⟨RB, 0, none⟩)] 118)) id) id
  have b2 : (((w.alloc (.cells #[.pointer (some ⟨RB, 0, none⟩)] 118)).alloc (.cells #[.int .i64 (t : Int)] 3)).alloc (.cells #[.int .i64 by'] 3)).heap[w.heap.size + 1]? = some (.cells #[.int .i64 (t : Int)] 3) := by
    have := heap_alloc_new (w.alloc (.cells #[.pointer (some ⟨RB, 0, none⟩)] 118)) (.cells #[.int .i64 (t : Int)] 3)
    rw [e1] at this
    exact k3.at this id
  have b3 := heap_alloc_new ((w.alloc (.cells #[.pointer (some ⟨RB, 0, none⟩)] 118)).alloc (.cells #[.int .i64 (t : Int)] 3)) (.cells #[.int .i64 by'] 3)
  rw [e2] at b3
  have k := (k1.trans k2 (fun _ q => q.elim)).trans k3 (fun _ q => q.elim)
  have HL3 : Hid _ := h.keep k id (fun _ _ => id)
  have HK : Hid _ := k
  have HB1 : Hid _ := b1
  have HB2 : Hid _ := b2
  have HB3 : Hid _ := b3
  have HV : Hid _ := hv
  have hCl : CB < w.heap.size := by obtain ⟨c, hc⟩ := h.ty; exact heap_lt hc
  have HOL : Hid (∀ b, oB CB m cm b → b < w.heap.size) := by
    rintro b (q | ⟨y, hy, q⟩)
    · omega
    · exact (h.yes y hy b q).lt
  clear k1 k2 k3 k b1 b2 b3 e1 e2 h hv
  go_enter Ybaz.func45, Ybaz.ntmps45
  go_upto_region 1 with fail
  generalize (((w.alloc (.cells #[.pointer (some ⟨RB, 0, none⟩)] 118)).alloc (.cells #[.int .i64 (t : Int)] 3)).alloc (.cells #[.int .i64 by'] 3)) = w3 at *
  generalize hbW : w.heap.size = bW at *
  have cW : w3.cell? ⟨bW, 0, none⟩ = some (.pointer (some ⟨RB, 0, none⟩)) := cell_of _ _ 0 _ _ HB1.out
  have c0 : w3.cell? ⟨RB, 0, none⟩ = some (.slice (some ⟨CB, 0, none⟩) (m + m) (m + m)) := cell_of _ _ 0 _ _ HL3.out.blk
  have m1 : (m : Int) ≤ 3 := by omega
  have d2 : ((m : Int) + (m : Int)).tdiv 2 = (m : Int) := by rw [Int.tdiv_eq_ediv_of_nonneg (by omega)]; omega
  have hmf : ∀ fn first cap w, (Instr.makeFunc fn first cap).run Ybaz.prog w = .ok (.func fn first cap) w := fun _ _ _ _ => rfl
  have HSG := fun (_ : Unit) => segments_one m x 105 #[.pointer (some ⟨bW, 0, none⟩), .pointer (some ⟨bW + 1, 0, none⟩), .pointer (some ⟨bW + 2, 0, none⟩)] w3 hx hm (fun w' => Hid (ORend w3 w' RB CB m (mn + 1) cm (ctSet ct x t v))) cf105 (fun _ => add1_any bW (bW + 1) (bW + 2) RB CB m mn x t v by' cm ct w3 HL3.out hx ht hmn HV.out hc HB1.out HB2.out HB3.out)
  go_wp2_with (go_at_call 104; refine (HSG ()).mono ?_; clear HSG; rintro e w4 ⟨rfl, HE⟩)
  go_end0
  obtain ⟨cm', h1, h2, h3⟩ := HE.out
  refine ⟨rfl, cm', h1, (HK.out.wide (fun _ q => q.elim)).trans h2 (fun _ q => .inl q), fun b hb => ?_⟩
  rcases h3 b hb with r | r
  · exact .inl r
  · exact .inr ⟨by have := HK.out.size; omega, r.2⟩
/-- Nobody but t reads. -/
def OnlyR (c : Nat → Nat) (t : Nat) : Prop := ∀ s, s ≠ t → c s = 0
theorem only_keys {c : Nat → Nat} {L : List Lit} (h : KeysOf (intM .i64 (ctF c)) L) (t : Nat) : OnlyR c t ↔ ¬ (1 < L.length ∨ (L.length = 1 ∧ c t = 0)) := by
  have mem : ∀ l, l ∈ L ↔ ∃ s : Nat, l = .int .i64 (s : Int) ∧ 0 < c s := fun l => by
    rw [h.2 l]
    constructor
    · intro q
      obtain ⟨z, rfl, hz⟩ := intM_some q
      unfold ctF at hz
      by_cases e : 0 ≤ z ∧ 0 < c z.toNat
      · exact ⟨z.toNat, by rw [Int.toNat_of_nonneg e.1], e.2⟩
      · simp [e] at hz
    · rintro ⟨s, rfl, hs⟩
      rw [intM_int, ctF_at, if_pos hs]; rfl
  constructor
  · rintro ho (q | ⟨q, q0⟩)
    · match L, h, mem, q with
      | a :: b :: L', h, mem, _ =>
        obtain ⟨s1, e1, h1⟩ := (mem a).1 (by simp)
        obtain ⟨s2, e2, h2⟩ := (mem b).1 (by simp)
        have hne : s1 ≠ s2 := fun e => by
          have := h.1
          rw [e1, e2, e] at this
          simp at this
        by_cases e : s1 = t
        · have := ho s2 (fun q => hne (e.trans q.symm)); omega
        · have := ho s1 e; omega
    · match L, h, mem, q with
      | [a], h, mem, _ =>
        obtain ⟨s1, e1, h1⟩ := (mem a).1 (by simp)
        by_cases e : s1 = t
        · rw [e] at h1; omega
        · have := ho s1 e; omega
  · intro hn s hs
    by_cases e : 0 < c s
    · exfalso
      apply hn
      have h1 := (mem (.int .i64 (s : Int))).2 ⟨s, rfl, e⟩
      by_cases et : 0 < c t
      · left
        have h2 := (mem (.int .i64 (t : Int))).2 ⟨t, rfl, et⟩
        match L, h1, h2 with
        | [a], h1, h2 =>
          simp at h1 h2
          rw [← h1] at h2
          simp at h2
          omega
        | a :: b :: L', _, _ => simp
      · match L, h1 with
        | [a], _ => right; exact ⟨rfl, by omega⟩
        | a :: b :: L', _ => left; simp
    · omega
/-- What 'only' answers. -/
def RetOnly (c : Nat → Nat) (t : Nat) (e : Ending) : Prop := ∃ r : Bool, e = .returned (.bool r) ∧ (r = true ↔ OnlyR c t)
set_option maxHeartbeats 8000000 in
set_option maxRecDepth 100000 in
/-- openReads.only. -/
theorem oronly_any (RB CB m mn x t : Nat) (cm : Nat → Option Nat) (ct : Nat → Nat → Nat) (w : World) (h : ORd w RB CB m mn cm ct) (hm : m ≤ 3) (hx : x < m) (ht : t ≤ 3000) (hmn : mn ≤ 100000000) :
    Calls Ybaz.prog 47 #[.pointer (some ⟨RB, 0, none⟩), .int .i64 (t : Int), .int .i64 (x : Int)] w fun e w' => RetOnly (ct x) t e ∧ Keep (fun _ => False) w w' := by
  have c0 : w.cell? ⟨RB, 0, none⟩ = some (.slice (some ⟨CB, 0, none⟩) (m + m) (m + m)) := cell_of _ _ 0 _ _ h.blk
  have m1 : (m : Int) ≤ 3 := by omega
  have x1 : (x : Int) < (m : Int) := by omega
  have d2 : ((m : Int) + (m : Int)).tdiv 2 = (m : Int) := by rw [Int.tdiv_eq_ediv_of_nonneg (by omega)]; omega
  have hln : ∀ W ty, (Builtin.len_ #[198] ty #[.map none]).run Ybaz.prog W = .ok (.int .i64 0) W := fun W ty => Maps.len_nil (w := W) Ybaz.underlying198 ty
  have HH : Hid _ := h
  clear h
  go_enter Ybaz.func47, Ybaz.ntmps47
  go_wp2
  go_loopw [7] (fun s wr => w = wr ∧ ∃ k : Nat, s = .int .i64 (k : Int) ∧ ((k = m + x) ∨ (k < m ∧ Hid (OnlyR (ct x) t)))) (fun s _ => (intOf s).toNat)
  case atStart => exact ⟨rfl, m + x, by simp, .inl rfl⟩
  case round =>
    obtain ⟨rfl, k, rfl, hk⟩ := hrel
    rcases hk with rfl | ⟨hk, HO⟩
    · have k0 : (1 : Int) ≤ ((m + x : Nat) : Int) := by omega
      have kc : ((m + x : Nat) : Int) = (m : Int) + (x : Int) := by omega
      rw [kc] at k0 ⊢
      have x2 : ((m : Int) + (x : Int)).toNat = m + x := by omega
      have x3 : (0 : Int) ≤ (m : Int) + (x : Int) := by omega
      have x4 : (m : Int) + (x : Int) < (m : Int) + (m : Int) := by omega
      have e0 := HH.out.row.cell (m + x) (by omega)
      obtain ⟨s0, hs0⟩ : ∃ s0 : Nat, Hid (s0 = (m + x) / 2) := ⟨_, rfl⟩
      have q5 : ((m : Int) + (x : Int)).tdiv 2 = (s0 : Int) := by rw [Int.tdiv_eq_ediv_of_nonneg (by omega)]; have := hs0.out; omega
      have s1 : s0 < m := by have := hs0.out; omega
      have s2 : (s0 : Int) ≤ 3 := by omega
      cases hcm : cm (m + x) with
      | none =>
        rw [hcm] at e0
        have HO : Hid (OnlyR (ct x) t) := fun s _ => HH.out.no x hx hcm s
        clear hcm
        go_wp2
        go_roundw
        case rel => exact ⟨trivial, s0, by go_num, .inr ⟨s1, HO⟩⟩
        case measure => simp [intOf]; omega
      | some b =>
        rw [hcm] at e0
        have hy := HH.out.yes x hx b hcm
        obtain ⟨L, hL, hl, hrl⟩ := hy.len (t := 198) keyed3 Ybaz.underlying198
        have hlk := hy.look (t := 198) keyed3 Ybaz.underlying198 (zero3 _) (ikey t ht)
        have hL2 : (intM .i64 (ctF (ct x)) (.int .i64 (t : Int))).getD (.int .i64 0) = .int .i64 (ct x t : Int) := by
          rw [intM_int, ctF_at]
          by_cases e : 0 < ct x t
          · simp [e]
          · have : ct x t = 0 := by omega
            simp [this]
        rw [hL2] at hlk
        have HKO : Hid _ := only_keys hL t
        have hlL : (L.length : Int) ≤ 100000000 := by omega
        clear hy hL hL2 hcm
        by_cases h1 : 1 < L.length
        · have g1 : (1 : Int) < (L.length : Int) := by omega
          go_wp2
          go_ret
          exact ⟨⟨false, rfl, by simp [HKO.out, h1]⟩, Keep.refl _ _⟩
        · have g1 : ¬ (1 : Int) < (L.length : Int) := by omega
          by_cases h2 : L.length = 1
          · have g2 : (L.length : Int) = 1 := by omega
            rw [g2] at hrl
            by_cases h3 : ct x t = 0
            · rw [h3] at hlk
              go_wp2
              go_ret
              exact ⟨⟨false, rfl, by simp [HKO.out, h2, h3]⟩, Keep.refl _ _⟩
            · have g3 : ((ct x t : Int) == 0) = false := by simpa using h3
              have HO : Hid (OnlyR (ct x) t) := HKO.out.2 (by omega)
              go_wp2
              go_roundw
              case rel => exact ⟨trivial, s0, by go_num, .inr ⟨s1, HO⟩⟩
              case measure => simp [intOf]; omega
          · have g2 : ((L.length : Int) == 1) = false := by simp; omega
            have HO : Hid (OnlyR (ct x) t) := HKO.out.2 (by omega)
            go_wp2
            go_roundw
            case rel => exact ⟨trivial, s0, by go_num, .inr ⟨s1, HO⟩⟩
            case measure => simp [intOf]; omega
    · cases k with
      | zero =>
        go_wp2
        go_ret
        exact ⟨⟨true, rfl, by simpa using HO.out⟩, Keep.refl _ _⟩
      | succ k =>
        have kc : ((k + 1 : Nat) : Int) = (k : Int) + 1 := by omega
        rw [kc]
        have k1 : (1 : Int) ≤ (k : Int) + 1 := by omega
        have k2 : (k : Int) + 1 < (m : Int) + (m : Int) := by omega
        have k3 : ((k : Int) + 1).toNat = k + 1 := by omega
        have k4 : (0 : Int) ≤ (k : Int) + 1 := by omega
        have e0 := HH.out.row.cell (k + 1) (by omega)
        rw [HH.out.inn (k + 1) hk] at e0
        obtain ⟨s1', hs1'⟩ : ∃ s1' : Nat, Hid (s1' = (k + 1) / 2) := ⟨_, rfl⟩
        have q6 : ((k : Int) + 1).tdiv 2 = (s1' : Int) := by rw [Int.tdiv_eq_ediv_of_nonneg (by omega)]; have := hs1'.out; omega
        have q7 : (s1' : Int) ≤ 3 ∧ s1' < k + 1 ∧ s1' < m := by have := hs1'.out; omega
        obtain ⟨q7, q8, q9⟩ := q7
        go_wp2
        go_roundw
        case rel => exact ⟨trivial, s1', by go_num, .inr ⟨q9, HO⟩⟩
        case measure => simp [intOf]; omega
end Go.Proofs.YbulkdvbsGreat

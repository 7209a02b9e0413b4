/-
  singleVersionReads: settle, walked.
-/
import Derived.Test.YbulkdvbsGreatSing
import Derived.Test.YbulkdvbsGreatReady
import Derived.Deep.RegionHeld3
import Derived.BigQuiet
namespace Go.Proofs.YbulkdvbsGreat
open Go.RowKit

/-- The sets hold but where x is. -/
def SOk' (NK : Nat) (ln : Nat → Nat) (c1 c2 : Nat → Bool) (x : Nat) : Prop := ∀ y, y < NK → y ≠ x → c1 y = true ∨ c2 y = true → 0 < ln y
theorem SOk.but {NK : Nat} {ln : Nat → Nat} {c1 c2 : Nat → Bool} (h : SOk NK ln c1 c2) (x : Nat) : SOk' NK ln c1 c2 x := fun y hy _ q => h y hy q
theorem SOk'.back {NK : Nat} {ln : Nat → Nat} {c1 c2 : Nat → Bool} {x n : Nat} {v1 v2 : Bool} (h : SOk' NK ln c1 c2 x) (hn : v1 = true ∨ v2 = true → 0 < n) : SOk NK (put1 ln x n) (cset c1 x v1) (cset c2 x v2) := fun y hy q => by
  by_cases e : y = x
  · subst e
    rw [put1_at]
    apply hn
    simpa [cset] using q
  · rw [put1_ne _ _ e]
    apply h y hy e
    simpa [cset, e] using q
set_option maxHeartbeats 8000000 in
set_option maxRecDepth 100000 in
theorem settle_any (SS : Nat → Prop) (w1 : World) (B3 B4 B5 BF V30 V31 V32 V33 OB M oc : Nat) (kd tx ky : Nat → Nat) (EM en FA : Nat) (fb : Nat → Bool) (KS NK : Nat) (wt : Nat → Prop) (num : Nat → Nat) (sx : Nat → ByteArray) (mb : Nat) (sa : Option Addr) (sc mn PB GM TA TC OV OC B gn x : Nat) (cls ln : Nat → Nat) (wa : Nat → Option Addr) (wc : Nat → Nat) (wv : Nat → Nat → Nat) (c1 c2 : Nat → Bool) (w : World)
    (hse : SE SS w1 B3 B4 B5 BF V30 V31 V32 V33 OB M oc kd tx ky EM en FA fb KS NK wt num sx mb sa sc mn PB GM TA OV) (h : SW SS w1 PB GM TA TC OV OC NK M cls ln wa wc wv gn c1 c2 w) (hok : SOk' NK ln c1 c2 x) (hB : ∀ x, x < NK → ln x ≤ B) (hB2 : B ≤ 100000) (hx : x < NK) :
    Calls Ybaz.prog 123 #[.int .i32 (x : Int), .pointer (some ⟨V30, 0, none⟩), .pointer (some ⟨V31, 0, none⟩), .pointer (some ⟨B3, 0, none⟩), .pointer (some ⟨B4, 0, none⟩), .pointer (some ⟨V32, 0, none⟩), .pointer (some ⟨V33, 0, none⟩), .pointer (some ⟨BF, 0, none⟩)] w fun e w' => e = .returned (.tuple #[]) ∧ SX SS w1 PB GM TA TC OV OC NK M B gn w' := by
  have hs := hse.keep h.k
  have hnk : NK ≤ 3 := hs.ks.nk
  have hM := hs.op.hM
  have x1 : (x : Int) < (NK : Int) := by omega
  have x2 : (x : Int).toNat = x := by omega
  have x3 : (NK : Int) ≤ 3 := by omega
  have xw : IntKind.i64.wrap (x : Int) = (x : Int) := by unfold IntKind.wrap; simp [IntKind.bits, IntKind.signed]; omega
  have c30 : w.cell? ⟨V30, 0, none⟩ = some (.slice (some ⟨PB, 0, none⟩) NK NK) := cell_of _ _ 0 _ _ hs.v30
  have c31 : w.cell? ⟨V31, 0, none⟩ = some (.map (some GM)) := cell_of _ _ 0 _ _ hs.v31
  have c3 : w.cell? ⟨B3, 0, none⟩ = some (.slice (some ⟨OB, 0, none⟩) M oc) := cell_of _ _ 0 _ _ hs.b3
  have cp : w.cell? ⟨PB, x, none⟩ = some (.slice (wa x) (ln x) (wc x)) := h.row.cell x hx
  have fp := h.row.free x
  have hcap := (h.vec x hx).cap
  have HS1 : Hid _ := hse
  have HS : Hid _ := hs
  have HW : Hid _ := h
  have HOK : Hid _ := hok
  have HB : Hid _ := hB
  clear hse hs h hok hB
  obtain ⟨a, ha⟩ : ∃ a, a = wa x := ⟨_, rfl⟩
  obtain ⟨c, hc⟩ : ∃ c, c = wc x := ⟨_, rfl⟩
  obtain ⟨L, hL⟩ : ∃ L, L = ln x := ⟨_, rfl⟩
  rw [← ha, ← hc, ← hL] at cp
  rw [← hL, ← hc] at hcap
  have HA : Hid (a = wa x ∧ c = wc x ∧ L = ln x) := ⟨ha, hc, hL⟩
  clear ha hc hL
  go_enter Ybaz.func123, Ybaz.ntmps123
  go_wp2
  go_loopg [9] L (fun gk s wr => ∃ n : Nat, n ≤ L ∧ s = .slice a n c ∧ gk = n ∧ Hid (Keep (fun _ => False) w wr))
  case atStart => exact ⟨L, Nat.le_refl _, rfl, rfl, Keep.refl _ _⟩
  case round =>
    obtain ⟨_, hn, rfl, rfl, HKr⟩ := hrel
    obtain ⟨w0, rfl⟩ : ∃ w0, w0 = wr := ⟨_, rfl⟩
    have HWr : Hid _ := HW.out.quiet HKr.out
    clear c30 c31 c3 cp fp
    by_cases h0 : gk = 0
    · subst h0
      go_upto_region 1 with fail
      go_quiet (fail)
      have k2 : Keep (fun _ => False) w0 (w0.drewN nq) := (Keep.refl _ _).drewN nq
      generalize w0.drewN nq = w2 at *
      have HW2 : Hid _ := HWr.out.quiet k2
      have d30 : w2.cell? ⟨V30, 0, none⟩ = some (.slice (some ⟨PB, 0, none⟩) NK NK) := cell_of _ _ 0 _ _ (HS1.out.keep HW2.out.k).v30
      have dp : w2.cell? ⟨PB, x, none⟩ = some (.slice a L c) := by
        rw [HA.out.1, HA.out.2.1, HA.out.2.2]; exact HW2.out.row.cell x hx
      have fp2 := HW2.out.row.free x
      have hSW : SW SS w1 PB GM TA TC OV OC NK M cls (put1 ln x 0) wa wc wv gn c1 c2 (w2.setCell ⟨PB, x, none⟩ (.slice a 0 c)) := by
        have := HW2.out.cut x 0 hx (Nat.zero_le _)
        rwa [← HA.out.1, ← HA.out.2.1] at this
      have HSW : Hid _ := hSW
      clear hSW k2 HW2
      go_upto_region 8 with fail
      clear d30 dp fp2
      generalize (w2.setCell ⟨PB, x, none⟩ (.slice a 0 c)) = w3 at *
      have d32 : w3.cell? ⟨V32, 0, none⟩ = some (.pointer (some ⟨TA, 0, none⟩)) := cell_of _ _ 0 _ _ (HS1.out.keep HSW.out.k).v32
      have HC := fun (_ : Unit) => (kset_any TA TC NK x c1 false w3 HSW.out.t hnk hx).mono (fun e w' q => (⟨q.1, q.2⟩ : e = _ ∧ Hid (KSend w3 w' TA TC NK (cset c1 x false))))
      go_upto_region 9 with (go_at_call 124; refine (HC ()).mono ?_; rintro e w4 ⟨rfl, HK4⟩)
      clear HC d32
      have HSW4 : Hid _ := HSW.out.set1 HK4.out
      clear HSW HK4
      have s4 := HS1.out.keep HSW4.out.k
      have d33 : w4.cell? ⟨V33, 0, none⟩ = some (.pointer (some ⟨OV, 0, none⟩)) := cell_of _ _ 0 _ _ s4.v33
      have HC : Hid (∀ v : World, Keep (fun _ => False) w4 v → Calls Ybaz.prog 124 #[.pointer (some ⟨OV, 0, none⟩), .int .i64 (x : Int), .bool false] v fun e w' => e = .returned (.tuple #[]) ∧ (w'.cell? ⟨V33, 0, none⟩ = some (.pointer (some ⟨OV, 0, none⟩))) ∧ Hid (SX SS w1 PB GM TA TC OV OC NK M B gn w')) := fun v kv => by
        have hv := HSW4.out.quiet kv
        refine (kset_any OV OC NK x c2 false v hv.o hnk hx).mono ?_
        rintro e w' ⟨rfl, k⟩
        have h5 := hv.set2 k
        refine ⟨rfl, cell_of _ _ 0 _ _ (HS1.out.keep h5.k).v33, ⟨_, _, _, _, _, _, _, h5, SOk'.back HOK.out (fun q => by simp at q), fun y hy => ?_⟩⟩
        by_cases e : y = x
        · subst e; rw [put1_at]; exact Nat.zero_le _
        · rw [put1_ne _ _ e]; exact HB.out y hy
      clear s4
      have kd4 : Keep (fun _ => False) w4 w4.drew := (Keep.refl _ _).drew
      refine wp_region_held_drew (S := (fun w' => w'.cell? ⟨V33, 0, none⟩ = some (.pointer (some ⟨OV, 0, none⟩)))) (by kernel_rfl) d33 (fun hHeld => ?_)
      refine wpAnyH_take (i := 0) (oi := ?_) (v := ?_) (by simp only [List.getElem?_toArray, List.getElem?_cons_zero]; rfl) (by kernel_rfl) (by kernel_rfl) (by kernel_rfl) (by exact fun _ _ _ h => h) (Or.inl ⟨by rfl, ?_⟩) (by assumption) ?_; rotate_left; (focus (intro w hSw; (try dsimp only at hSw); first | (go_simp; done) | (go_simp; with_reducible rfl))); try simp only [Act.put, List.setIfInBounds_toArray, List.set_cons_zero, List.set_cons_succ]
      refine wpAnyH_take (i := 1) (oi := ?_) (v := ?_) (by simp only [List.getElem?_toArray, List.getElem?_cons_succ, List.getElem?_cons_zero]; rfl) (by kernel_rfl) (by kernel_rfl) (by kernel_rfl) (by exact fun _ _ _ h => h) (Or.inl ⟨by rfl, ?_⟩) (by assumption) ?_; rotate_left; (focus (intro w hSw; (try dsimp only at hSw); first | (go_simp; done) | (go_simp; with_reducible rfl))); try simp only [Act.put, List.setIfInBounds_toArray, List.set_cons_zero, List.set_cons_succ]
      refine wpAnyH_take (i := 2) (oi := ?_) (v := ?_) (by simp only [List.getElem?_toArray, List.getElem?_cons_succ, List.getElem?_cons_zero]; rfl) (by kernel_rfl) (by kernel_rfl) (by kernel_rfl) (by exact fun _ _ _ h => h) (Or.inl ⟨by rfl, ?_⟩) (by assumption) ?_; rotate_left; (focus (intro w hSw; (try dsimp only at hSw); first | (go_simp; done) | (go_simp; with_reducible rfl))); try simp only [Act.put, List.setIfInBounds_toArray, List.set_cons_zero, List.set_cons_succ]
      refine wpAnyH_take (i := 3) (oi := ?_) (v := ?_) (by simp only [List.getElem?_toArray, List.getElem?_cons_succ, List.getElem?_cons_zero]; rfl) (by kernel_rfl) (by kernel_rfl) (by kernel_rfl) (by exact fun _ _ _ h => h) (Or.inl ⟨by rfl, ?_⟩) (by assumption) ?_; rotate_left; (focus (intro w hSw; (try dsimp only at hSw); first | (go_simp; done) | (go_simp; with_reducible rfl))); try simp only [Act.put, List.setIfInBounds_toArray, List.set_cons_zero, List.set_cons_succ]
      refine wpAnyH_take (i := 4) (oi := ?_) (v := ?_) (by simp only [List.getElem?_toArray, List.getElem?_cons_succ, List.getElem?_cons_zero]; rfl) (by kernel_rfl) (by kernel_rfl) (by kernel_rfl) (by exact fun _ _ _ h => h) (Or.inl ⟨by rfl, ?_⟩) (by assumption) ?_; rotate_left; (focus (intro w hSw; (try dsimp only at hSw); first | (go_simp; done) | (go_simp; with_reducible rfl))); try simp only [Act.put, List.setIfInBounds_toArray, List.set_cons_zero, List.set_cons_succ]
      refine wpAnyH_take (i := 5) (oi := ?_) (v := ?_) (by simp only [List.getElem?_toArray, List.getElem?_cons_succ, List.getElem?_cons_zero]; rfl) (by kernel_rfl) (by kernel_rfl) (by kernel_rfl) (by exact fun _ _ _ h => h) (Or.inl ⟨by rfl, ?_⟩) (by assumption) ?_; rotate_left; (focus (intro w hSw; (try dsimp only at hSw); first | (go_simp; done) | (go_simp; with_reducible rfl))); try simp only [Act.put, List.setIfInBounds_toArray, List.set_cons_zero, List.set_cons_succ]
      refine wpAnyH_take (i := 6) (oi := ?_) (v := undef) (by simp only [List.getElem?_toArray, List.getElem?_cons_succ, List.getElem?_cons_zero]; rfl) (by kernel_rfl) (by kernel_rfl) (by kernel_rfl) (by exact fun _ _ _ h => h) (Or.inr ⟨by simp [Region.wanted, yielded], rfl⟩) (by assumption) ?_; try simp only [Act.put, List.setIfInBounds_toArray, List.set_cons_zero, List.set_cons_succ]
      refine wpAnyH_take (i := 7) (oi := ?_) (v := undef) (by simp only [List.getElem?_toArray, List.getElem?_cons_succ, List.getElem?_cons_zero]; rfl) (by kernel_rfl) (by kernel_rfl) (by kernel_rfl) (by exact fun _ _ _ h => h) (Or.inr ⟨by simp [Region.wanted, yielded], rfl⟩) (by assumption) ?_; try simp only [Act.put, List.setIfInBounds_toArray, List.set_cons_zero, List.set_cons_succ]
      refine wpAnyH_take (i := 8) (oi := ?_) (v := undef) (by simp only [List.getElem?_toArray, List.getElem?_cons_succ, List.getElem?_cons_zero]; rfl) (by kernel_rfl) (by kernel_rfl) (by kernel_rfl) (by exact fun _ _ _ h => h) (Or.inr ⟨by simp [Region.wanted, yielded], rfl⟩) (by assumption) ?_; try simp only [Act.put, List.setIfInBounds_toArray, List.set_cons_zero, List.set_cons_succ]
      refine wpAnyH_take (i := 9) (oi := ?_) (v := undef) (by simp only [List.getElem?_toArray, List.getElem?_cons_succ, List.getElem?_cons_zero]; rfl) (by kernel_rfl) (by kernel_rfl) (by kernel_rfl) (by exact fun _ _ _ h => h) (Or.inr ⟨by simp [Region.wanted, yielded], rfl⟩) (by assumption) ?_; try simp only [Act.put, List.setIfInBounds_toArray, List.set_cons_zero, List.set_cons_succ]
      refine wpAnyH_take (i := 10) (oi := ?_) (v := undef) (by simp only [List.getElem?_toArray, List.getElem?_cons_succ, List.getElem?_cons_zero]; rfl) (by kernel_rfl) (by kernel_rfl) (by kernel_rfl) (by exact fun _ _ _ h => h) (Or.inr ⟨by simp [Region.wanted, yielded], rfl⟩) (by assumption) ?_; try simp only [Act.put, List.setIfInBounds_toArray, List.set_cons_zero, List.set_cons_succ]
      refine wpAnyH_take (i := 11) (oi := ?_) (v := ?_) (by simp only [List.getElem?_toArray, List.getElem?_cons_succ, List.getElem?_cons_zero]; rfl) (by kernel_rfl) (by kernel_rfl) (by kernel_rfl) (by exact fun _ _ _ h => h) (Or.inl ⟨by rfl, ?_⟩) (by assumption) ?_; rotate_left; (focus (intro w hSw; (try dsimp only at hSw); first | (go_simp; done) | (go_simp; with_reducible rfl))); try simp only [Act.put, List.setIfInBounds_toArray, List.set_cons_zero, List.set_cons_succ]
      refine wpAnyH_ready (rs := [12]) (by kernel_rfl) (by simp) ?_
      refine AllReadyH.cons (o := ?_) (by simp only [List.getElem?_toArray, List.getElem?_cons_succ, List.getElem?_cons_zero]; rfl) (fun K hK => ?_) AllReadyH.nil
      go_simp
      go_at_call 124
      refine (HC.out _ kd4).mono ?_
      rintro e w5 ⟨rfl, hS5, HX5⟩
      dsimp only
      refine hK.out _ _ hS5 (fun hHeld2 => ?_)
      clear hK K
      try simp only [Act.put, List.setIfInBounds_toArray, List.set_cons_zero, List.set_cons_succ]
      refine wpAnyH_done (by kernel_rfl) ?_ _
      go_wp2
      go_end0
      exact ⟨rfl, HX5.out⟩
    · have hn' : gk ≤ ln x := by rw [← HA.out.2.2]; exact hn
      obtain ⟨g, hag, hgl, hrow⟩ := ((HWr.out.vec x hx).take gk hn').row (by omega)
      rw [← HA.out.1] at hag
      subst hag
      obtain ⟨p, hp⟩ : ∃ p, p = gk - 1 := ⟨_, rfl⟩
      have g1 : (0 : Int) < (gk : Int) := by omega
      have hd : decide (0 < gk) = true := by simp; omega
      have hpB : p < 100000 := by have := HB.out x hx; omega
      have pw : IntKind.i64.wrap (p : Int) = (p : Int) := by unfold IntKind.wrap; simp [IntKind.bits, IntKind.signed]; omega
      have gB : (gk : Int) ≤ 100000 := by omega
      have g2 : (gk : Int) - 1 = (p : Int) := by omega
      have g3 : (p : Int) < (gk : Int) := by omega
      have g4 : (p : Int).toNat = p := by omega
      have g5 : (p : Int) ≤ (c : Int) := by omega
      have eg := hrow.cell p (by omega)
      have hqM := HW.out.lt x p hx (by omega)
      obtain ⟨q, hq⟩ : ∃ q, q = wv x p := ⟨_, rfl⟩
      rw [← hq] at eg hqM
      have q1 : (q : Int) < (M : Int) := by omega
      have q2 : (q : Int).toNat = q := by omega
      have q3 : (M : Int) ≤ 2000 := by omega
      have sr := HS1.out.keep HWr.out.k
      have c31 : w0.cell? ⟨V31, 0, none⟩ = some (.map (some GM)) := cell_of _ _ 0 _ _ sr.v31
      have c3 : w0.cell? ⟨B3, 0, none⟩ = some (.slice (some ⟨OB, 0, none⟩) M oc) := cell_of _ _ 0 _ _ sr.b3
      have et := (sr.op.cell q hqM).2.1
      obtain ⟨v, ⟨bv, rfl⟩, hL⟩ := HWr.out.mp.looks Ybaz.underlying210 zero4 ⟨false, rfl⟩ (tx q) (HS.out.op.ht q hqM).2
      have hL2 := fun nq => hL (w0.drewN nq) ((Keep.refl _ _).drewN nq)
      have HH : Hid (0 < gk ∧ gk ≤ ln x ∧ q = wv x p ∧ p < ln x ∧ p = gk - 1) := ⟨by omega, hn', hq, by omega, hp⟩
      have HG : Hid _ := hrow
      clear hL hn' hrow hp hq sr
      go_upto_region 1 with fail
      go_quiet (fail)
      have k2 : Keep (fun _ => False) w0 (w0.drewN nq) := (Keep.refl _ _).drewN nq
      clear c31 c3 hL2 et
      generalize w0.drewN nq = w2 at *
      have HW2 : Hid _ := HWr.out.quiet k2
      have HK2 : Hid (Keep (fun _ => False) w w2) := HKr.out.trans k2 (fun _ q => q.elim)
      have eg2 := (k2.cell ⟨g, p, none⟩ hgl id).trans eg
      have hsz2 := k2.size
      clear k2 HWr HKr eg
      cases bv
      · -- bvfalse
        have d30 : w2.cell? ⟨V30, 0, none⟩ = some (.slice (some ⟨PB, 0, none⟩) NK NK) := cell_of _ _ 0 _ _ (HS1.out.keep HW2.out.k).v30
        have dp : w2.cell? ⟨PB, x, none⟩ = some (.slice (some ⟨g, 0, none⟩) L c) := by
          rw [HA.out.1, HA.out.2.1, HA.out.2.2]; exact HW2.out.row.cell x hx
        have fp2 := HW2.out.row.free x
        have hSW : SW SS w1 PB GM TA TC OV OC NK M cls (put1 ln x gk) wa wc wv gn c1 c2 (w2.setCell ⟨PB, x, none⟩ (.slice (some ⟨g, 0, none⟩) gk c)) := by
          have := HW2.out.cut x gk hx HH.out.2.1
          rwa [← HA.out.1, ← HA.out.2.1] at this
        have eg3 : (w2.setCell ⟨PB, x, none⟩ (.slice (some ⟨g, 0, none⟩) gk c)).cell? ⟨g, p, none⟩ = some (.int .i32 (q : Int)) := by
          rw [← eg2]
          refine (Keep.setCell w2 ⟨PB, x, none⟩ (.slice (some ⟨g, 0, none⟩) gk c)).cell ⟨g, p, none⟩ (Nat.lt_of_lt_of_le (Nat.lt_of_lt_of_le hgl (Nat.le_refl _)) hsz2) (fun e => ?_)
          have e1 := HW.out.cV x g hx HA.out.1.symm
          have e2 := HW.out.cP
          rw [show g = PB from e] at e1
          omega
        have HSW : Hid _ := hSW
        clear hSW HW2
        go_upto_region 7 with fail
        clear d30 dp fp2 eg2 eg3
        generalize (w2.setCell ⟨PB, x, none⟩ (.slice (some ⟨g, 0, none⟩) gk c)) = w3 at *
        have s3 := HS1.out.keep HSW.out.k
        have c4 : w3.cell? ⟨B4, 0, none⟩ = some (.map (some EM)) := cell_of _ _ 0 _ _ s3.b4
        have c3 : w3.cell? ⟨B3, 0, none⟩ = some (.slice (some ⟨OB, 0, none⟩) M oc) := cell_of _ _ 0 _ _ s3.b3
        have et := (s3.op.cell q hqM).2.1
        obtain ⟨v, ⟨z, rfl⟩, hL⟩ := s3.em.looks Ybaz.underlying46 zero28 ⟨0, rfl⟩ (tx q) (HS.out.op.ht q hqM).2
        have hL2 := fun nq => hL (w3.drewN nq) ((Keep.refl _ _).drewN nq)
        clear hL s3
        go_quiet (fail)
        have k3 : Keep (fun _ => False) w3 (w3.drewN nq) := (Keep.refl _ _).drewN nq
        clear c4 c3 hL2 et
        generalize w3.drewN nq = w6 at *
        have HSW6 : Hid _ := HSW.out.quiet k3
        clear HSW k3
        obtain ⟨w3, rfl⟩ : ∃ w3, w3 = w6 := ⟨_, rfl⟩
        have HSW : Hid _ := HSW6.out
        clear HSW6
        by_cases z1 : z = 97
        · subst z1
          have d32 : w3.cell? ⟨V32, 0, none⟩ = some (.pointer (some ⟨TA, 0, none⟩)) := cell_of _ _ 0 _ _ (HS1.out.keep HSW.out.k).v32
          have HC := fun (_ : Unit) => (kset_any TA TC NK x c1 true w3 HSW.out.t hnk hx).mono (fun e w' q => (⟨q.1, q.2⟩ : e = _ ∧ Hid (KSend w3 w' TA TC NK (cset c1 x true))))
          go_upto_region 9 with (go_at_call 124; refine (HC ()).mono ?_; rintro e w4 ⟨rfl, HK4⟩)
          clear HC d32
          have HSW4 : Hid _ := HSW.out.set1 HK4.out
          clear HSW HK4
          have s4 := HS1.out.keep HSW4.out.k
          have d33 : w4.cell? ⟨V33, 0, none⟩ = some (.pointer (some ⟨OV, 0, none⟩)) := cell_of _ _ 0 _ _ s4.v33
          have HC : Hid (∀ v : World, Keep (fun _ => False) w4 v → Calls Ybaz.prog 124 #[.pointer (some ⟨OV, 0, none⟩), .int .i64 (x : Int), .bool false] v fun e w' => e = .returned (.tuple #[]) ∧ (w'.cell? ⟨V33, 0, none⟩ = some (.pointer (some ⟨OV, 0, none⟩))) ∧ Hid (SX SS w1 PB GM TA TC OV OC NK M B gn w')) := fun v kv => by
            have hv := HSW4.out.quiet kv
            refine (kset_any OV OC NK x c2 false v hv.o hnk hx).mono ?_
            rintro e w' ⟨rfl, k⟩
            have h5 := hv.set2 k
            refine ⟨rfl, cell_of _ _ 0 _ _ (HS1.out.keep h5.k).v33, ⟨_, _, _, _, _, _, _, h5, SOk'.back HOK.out (fun _ => HH.out.1), fun y hy => ?_⟩⟩
            by_cases e : y = x
            · subst e; rw [put1_at]; exact Nat.le_trans HH.out.2.1 (HB.out y hy)
            · rw [put1_ne _ _ e]; exact HB.out y hy
          clear s4
          have kd4 : Keep (fun _ => False) w4 w4.drew := (Keep.refl _ _).drew
          refine wp_region_held_drew (S := (fun w' => w'.cell? ⟨V33, 0, none⟩ = some (.pointer (some ⟨OV, 0, none⟩)))) (by kernel_rfl) d33 (fun hHeld => ?_)
          refine wpAnyH_take (i := 0) (oi := ?_) (v := ?_) (by simp only [List.getElem?_toArray, List.getElem?_cons_zero]; rfl) (by kernel_rfl) (by kernel_rfl) (by kernel_rfl) (by exact fun _ _ _ h => h) (Or.inl ⟨by rfl, ?_⟩) (by assumption) ?_; rotate_left; (focus (intro w hSw; (try dsimp only at hSw); first | (go_simp; done) | (go_simp; with_reducible rfl))); try simp only [Act.put, List.setIfInBounds_toArray, List.set_cons_zero, List.set_cons_succ]
          refine wpAnyH_take (i := 1) (oi := ?_) (v := ?_) (by simp only [List.getElem?_toArray, List.getElem?_cons_succ, List.getElem?_cons_zero]; rfl) (by kernel_rfl) (by kernel_rfl) (by kernel_rfl) (by exact fun _ _ _ h => h) (Or.inl ⟨by rfl, ?_⟩) (by assumption) ?_; rotate_left; (focus (intro w hSw; (try dsimp only at hSw); first | (go_simp; done) | (go_simp; with_reducible rfl))); try simp only [Act.put, List.setIfInBounds_toArray, List.set_cons_zero, List.set_cons_succ]
          refine wpAnyH_take (i := 2) (oi := ?_) (v := ?_) (by simp only [List.getElem?_toArray, List.getElem?_cons_succ, List.getElem?_cons_zero]; rfl) (by kernel_rfl) (by kernel_rfl) (by kernel_rfl) (by exact fun _ _ _ h => h) (Or.inl ⟨by rfl, ?_⟩) (by assumption) ?_; rotate_left; (focus (intro w hSw; (try dsimp only at hSw); first | (go_simp; done) | (go_simp; with_reducible rfl))); try simp only [Act.put, List.setIfInBounds_toArray, List.set_cons_zero, List.set_cons_succ]
          refine wpAnyH_take (i := 3) (oi := ?_) (v := ?_) (by simp only [List.getElem?_toArray, List.getElem?_cons_succ, List.getElem?_cons_zero]; rfl) (by kernel_rfl) (by kernel_rfl) (by kernel_rfl) (by exact fun _ _ _ h => h) (Or.inl ⟨by rfl, ?_⟩) (by assumption) ?_; rotate_left; (focus (intro w hSw; (try dsimp only at hSw); first | (go_simp; done) | (go_simp; with_reducible rfl))); try simp only [Act.put, List.setIfInBounds_toArray, List.set_cons_zero, List.set_cons_succ]
          refine wpAnyH_take (i := 4) (oi := ?_) (v := ?_) (by simp only [List.getElem?_toArray, List.getElem?_cons_succ, List.getElem?_cons_zero]; rfl) (by kernel_rfl) (by kernel_rfl) (by kernel_rfl) (by exact fun _ _ _ h => h) (Or.inl ⟨by rfl, ?_⟩) (by assumption) ?_; rotate_left; (focus (intro w hSw; (try dsimp only at hSw); first | (go_simp; done) | (go_simp; with_reducible rfl))); try simp only [Act.put, List.setIfInBounds_toArray, List.set_cons_zero, List.set_cons_succ]
          refine wpAnyH_take (i := 5) (oi := ?_) (v := ?_) (by simp only [List.getElem?_toArray, List.getElem?_cons_succ, List.getElem?_cons_zero]; rfl) (by kernel_rfl) (by kernel_rfl) (by kernel_rfl) (by exact fun _ _ _ h => h) (Or.inl ⟨by rfl, ?_⟩) (by assumption) ?_; rotate_left; (focus (intro w hSw; (try dsimp only at hSw); first | (go_simp; done) | (go_simp; with_reducible rfl))); try simp only [Act.put, List.setIfInBounds_toArray, List.set_cons_zero, List.set_cons_succ]
          refine wpAnyH_take (i := 6) (oi := ?_) (v := undef) (by simp only [List.getElem?_toArray, List.getElem?_cons_succ, List.getElem?_cons_zero]; rfl) (by kernel_rfl) (by kernel_rfl) (by kernel_rfl) (by exact fun _ _ _ h => h) (Or.inr ⟨by simp [Region.wanted, yielded], rfl⟩) (by assumption) ?_; try simp only [Act.put, List.setIfInBounds_toArray, List.set_cons_zero, List.set_cons_succ]
          refine wpAnyH_take (i := 7) (oi := ?_) (v := undef) (by simp only [List.getElem?_toArray, List.getElem?_cons_succ, List.getElem?_cons_zero]; rfl) (by kernel_rfl) (by kernel_rfl) (by kernel_rfl) (by exact fun _ _ _ h => h) (Or.inr ⟨by simp [Region.wanted, yielded], rfl⟩) (by assumption) ?_; try simp only [Act.put, List.setIfInBounds_toArray, List.set_cons_zero, List.set_cons_succ]
          refine wpAnyH_take (i := 8) (oi := ?_) (v := undef) (by simp only [List.getElem?_toArray, List.getElem?_cons_succ, List.getElem?_cons_zero]; rfl) (by kernel_rfl) (by kernel_rfl) (by kernel_rfl) (by exact fun _ _ _ h => h) (Or.inr ⟨by simp [Region.wanted, yielded], rfl⟩) (by assumption) ?_; try simp only [Act.put, List.setIfInBounds_toArray, List.set_cons_zero, List.set_cons_succ]
          refine wpAnyH_take (i := 9) (oi := ?_) (v := undef) (by simp only [List.getElem?_toArray, List.getElem?_cons_succ, List.getElem?_cons_zero]; rfl) (by kernel_rfl) (by kernel_rfl) (by kernel_rfl) (by exact fun _ _ _ h => h) (Or.inr ⟨by simp [Region.wanted, yielded], rfl⟩) (by assumption) ?_; try simp only [Act.put, List.setIfInBounds_toArray, List.set_cons_zero, List.set_cons_succ]
          refine wpAnyH_take (i := 10) (oi := ?_) (v := undef) (by simp only [List.getElem?_toArray, List.getElem?_cons_succ, List.getElem?_cons_zero]; rfl) (by kernel_rfl) (by kernel_rfl) (by kernel_rfl) (by exact fun _ _ _ h => h) (Or.inr ⟨by simp [Region.wanted, yielded], rfl⟩) (by assumption) ?_; try simp only [Act.put, List.setIfInBounds_toArray, List.set_cons_zero, List.set_cons_succ]
          refine wpAnyH_take (i := 11) (oi := ?_) (v := ?_) (by simp only [List.getElem?_toArray, List.getElem?_cons_succ, List.getElem?_cons_zero]; rfl) (by kernel_rfl) (by kernel_rfl) (by kernel_rfl) (by exact fun _ _ _ h => h) (Or.inl ⟨by rfl, ?_⟩) (by assumption) ?_; rotate_left; (focus (intro w hSw; (try dsimp only at hSw); first | (go_simp; done) | (go_simp; with_reducible rfl))); try simp only [Act.put, List.setIfInBounds_toArray, List.set_cons_zero, List.set_cons_succ]
          refine wpAnyH_ready (rs := [12]) (by kernel_rfl) (by simp) ?_
          refine AllReadyH.cons (o := ?_) (by simp only [List.getElem?_toArray, List.getElem?_cons_succ, List.getElem?_cons_zero]; rfl) (fun K hK => ?_) AllReadyH.nil
          go_simp
          go_at_call 124
          refine (HC.out _ kd4).mono ?_
          rintro e w5 ⟨rfl, hS5, HX5⟩
          dsimp only
          refine hK.out _ _ hS5 (fun hHeld2 => ?_)
          clear hK K
          try simp only [Act.put, List.setIfInBounds_toArray, List.set_cons_zero, List.set_cons_succ]
          refine wpAnyH_done (by kernel_rfl) ?_ _
          go_wp2
          go_end0
          exact ⟨rfl, HX5.out⟩
        · have z1' : (z == 97) = false := by simpa using z1
          by_cases z2 : z = 99
          · subst z2
            have d32 : w3.cell? ⟨V32, 0, none⟩ = some (.pointer (some ⟨TA, 0, none⟩)) := cell_of _ _ 0 _ _ (HS1.out.keep HSW.out.k).v32
            have HC := fun (_ : Unit) => (kset_any TA TC NK x c1 false w3 HSW.out.t hnk hx).mono (fun e w' q => (⟨q.1, q.2⟩ : e = _ ∧ Hid (KSend w3 w' TA TC NK (cset c1 x false))))
            go_upto_region 9 with (go_at_call 124; refine (HC ()).mono ?_; rintro e w4 ⟨rfl, HK4⟩)
            clear HC d32
            have HSW4 : Hid _ := HSW.out.set1 HK4.out
            clear HSW HK4
            have s4 := HS1.out.keep HSW4.out.k
            have d33 : w4.cell? ⟨V33, 0, none⟩ = some (.pointer (some ⟨OV, 0, none⟩)) := cell_of _ _ 0 _ _ s4.v33
            have dbf : w4.cell? ⟨BF, 0, none⟩ = some (.slice (some ⟨FA, 0, none⟩) M M) := cell_of _ _ 0 _ _ s4.bf
            have dfa := s4.fr.cell q hqM
            have HC : Hid (∀ v : World, Keep (fun _ => False) w4 v → Calls Ybaz.prog 124 #[.pointer (some ⟨OV, 0, none⟩), .int .i64 (x : Int), .bool (!fb q)] v fun e w' => e = .returned (.tuple #[]) ∧ (w'.cell? ⟨V33, 0, none⟩ = some (.pointer (some ⟨OV, 0, none⟩)) ∧ w'.cell? ⟨BF, 0, none⟩ = some (.slice (some ⟨FA, 0, none⟩) M M) ∧ w'.cell? ⟨FA, q, none⟩ = some (.bool (fb q))) ∧ Hid (SX SS w1 PB GM TA TC OV OC NK M B gn w')) := fun v kv => by
              have hv := HSW4.out.quiet kv
              refine (kset_any OV OC NK x c2 (!fb q) v hv.o hnk hx).mono ?_
              rintro e w' ⟨rfl, k⟩
              have h5 := hv.set2 k
              refine ⟨rfl, ⟨cell_of _ _ 0 _ _ (HS1.out.keep h5.k).v33, cell_of _ _ 0 _ _ (HS1.out.keep h5.k).bf, (HS1.out.keep h5.k).fr.cell q hqM⟩, ⟨_, _, _, _, _, _, _, h5, SOk'.back HOK.out (fun _ => HH.out.1), fun y hy => ?_⟩⟩
              by_cases e : y = x
              · subst e; rw [put1_at]; exact Nat.le_trans HH.out.2.1 (HB.out y hy)
              · rw [put1_ne _ _ e]; exact HB.out y hy
            clear s4
            have kd4 : Keep (fun _ => False) w4 w4.drew := (Keep.refl _ _).drew
            refine wp_region_held_drew (S := (fun w' => w'.cell? ⟨V33, 0, none⟩ = some (.pointer (some ⟨OV, 0, none⟩)) ∧ w'.cell? ⟨BF, 0, none⟩ = some (.slice (some ⟨FA, 0, none⟩) M M) ∧ w'.cell? ⟨FA, q, none⟩ = some (.bool (fb q)))) (by kernel_rfl) ⟨d33, dbf, dfa⟩ (fun hHeld => ?_)
            refine wpAnyH_take (i := 0) (oi := ?_) (v := ?_) (by simp only [List.getElem?_toArray, List.getElem?_cons_zero]; rfl) (by kernel_rfl) (by kernel_rfl) (by kernel_rfl) (by exact fun _ _ _ h => h) (Or.inl ⟨by rfl, ?_⟩) (by assumption) ?_; rotate_left; (focus (intro w hSw; (try dsimp only at hSw); first | (go_simp; done) | (go_simp; with_reducible rfl))); try simp only [Act.put, List.setIfInBounds_toArray, List.set_cons_zero, List.set_cons_succ]
            refine wpAnyH_take (i := 1) (oi := ?_) (v := ?_) (by simp only [List.getElem?_toArray, List.getElem?_cons_succ, List.getElem?_cons_zero]; rfl) (by kernel_rfl) (by kernel_rfl) (by kernel_rfl) (by exact fun _ _ _ h => h) (Or.inl ⟨by rfl, ?_⟩) (by assumption) ?_; rotate_left; (focus (intro w hSw; (try dsimp only at hSw); first | (go_simp; done) | (go_simp; with_reducible rfl))); try simp only [Act.put, List.setIfInBounds_toArray, List.set_cons_zero, List.set_cons_succ]
            refine wpAnyH_take (i := 2) (oi := ?_) (v := ?_) (by simp only [List.getElem?_toArray, List.getElem?_cons_succ, List.getElem?_cons_zero]; rfl) (by kernel_rfl) (by kernel_rfl) (by kernel_rfl) (by exact fun _ _ _ h => h) (Or.inl ⟨by rfl, ?_⟩) (by assumption) ?_; rotate_left; (focus (intro w hSw; (try dsimp only at hSw); first | (go_simp; done) | (go_simp; with_reducible rfl))); try simp only [Act.put, List.setIfInBounds_toArray, List.set_cons_zero, List.set_cons_succ]
            refine wpAnyH_take (i := 3) (oi := ?_) (v := ?_) (by simp only [List.getElem?_toArray, List.getElem?_cons_succ, List.getElem?_cons_zero]; rfl) (by kernel_rfl) (by kernel_rfl) (by kernel_rfl) (by exact fun _ _ _ h => h) (Or.inl ⟨by rfl, ?_⟩) (by assumption) ?_; rotate_left; (focus (intro w hSw; (try dsimp only at hSw); first | (go_simp; done) | (go_simp; with_reducible rfl))); try simp only [Act.put, List.setIfInBounds_toArray, List.set_cons_zero, List.set_cons_succ]
            refine wpAnyH_take (i := 4) (oi := ?_) (v := ?_) (by simp only [List.getElem?_toArray, List.getElem?_cons_succ, List.getElem?_cons_zero]; rfl) (by kernel_rfl) (by kernel_rfl) (by kernel_rfl) (by exact fun _ _ _ h => h) (Or.inl ⟨by rfl, ?_⟩) (by assumption) ?_; rotate_left; (focus (intro w hSw; (try dsimp only at hSw); first | (go_simp; done) | (go_simp; with_reducible rfl))); try simp only [Act.put, List.setIfInBounds_toArray, List.set_cons_zero, List.set_cons_succ]
            refine wpAnyH_take (i := 5) (oi := ?_) (v := ?_) (by simp only [List.getElem?_toArray, List.getElem?_cons_succ, List.getElem?_cons_zero]; rfl) (by kernel_rfl) (by kernel_rfl) (by kernel_rfl) (by exact fun _ _ _ h => h) (Or.inl ⟨by rfl, ?_⟩) (by assumption) ?_; rotate_left; (focus (intro w hSw; (try dsimp only at hSw); first | (go_simp; done) | (go_simp; with_reducible rfl))); try simp only [Act.put, List.setIfInBounds_toArray, List.set_cons_zero, List.set_cons_succ]
            refine wpAnyH_take (i := 6) (oi := ?_) (v := ?_) (by simp only [List.getElem?_toArray, List.getElem?_cons_succ, List.getElem?_cons_zero]; rfl) (by kernel_rfl) (by kernel_rfl) (by kernel_rfl) (by exact fun _ _ _ h => h) (Or.inl ⟨by simp [Region.wanted, yielded], ?_⟩) (by assumption) ?_; rotate_left; (focus (intro w hSw; (try dsimp only at hSw); first | (go_simp; done) | (go_simp; with_reducible rfl))); try simp only [Act.put, List.setIfInBounds_toArray, List.set_cons_zero, List.set_cons_succ]
            refine wpAnyH_take (i := 7) (oi := ?_) (v := ?_) (by simp only [List.getElem?_toArray, List.getElem?_cons_succ, List.getElem?_cons_zero]; rfl) (by kernel_rfl) (by kernel_rfl) (by kernel_rfl) (by exact fun _ _ _ h => h) (Or.inl ⟨by simp [Region.wanted, yielded], ?_⟩) (by assumption) ?_; rotate_left; (focus (intro w hSw; (try dsimp only at hSw); first | (go_simp; done) | (go_simp; with_reducible rfl))); try simp only [Act.put, List.setIfInBounds_toArray, List.set_cons_zero, List.set_cons_succ]
            refine wpAnyH_take (i := 8) (oi := ?_) (v := ?_) (by simp only [List.getElem?_toArray, List.getElem?_cons_succ, List.getElem?_cons_zero]; rfl) (by kernel_rfl) (by kernel_rfl) (by kernel_rfl) (by exact fun _ _ _ h => h) (Or.inl ⟨by simp [Region.wanted, yielded], ?_⟩) (by assumption) ?_; rotate_left; (focus (intro w hSw; (try dsimp only at hSw); first | (go_simp; done) | (go_simp; with_reducible rfl))); try simp only [Act.put, List.setIfInBounds_toArray, List.set_cons_zero, List.set_cons_succ]
            refine wpAnyH_take (i := 9) (oi := ?_) (v := ?_) (by simp only [List.getElem?_toArray, List.getElem?_cons_succ, List.getElem?_cons_zero]; rfl) (by kernel_rfl) (by kernel_rfl) (by kernel_rfl) (by exact fun _ _ _ h => h) (Or.inl ⟨by simp [Region.wanted, yielded], ?_⟩) (by assumption) ?_; rotate_left; (focus (intro w hSw; (try dsimp only at hSw); first | (go_simp; done) | (go_simp; with_reducible rfl))); try simp only [Act.put, List.setIfInBounds_toArray, List.set_cons_zero, List.set_cons_succ]
            refine wpAnyH_take (i := 10) (oi := ?_) (v := ?_) (by simp only [List.getElem?_toArray, List.getElem?_cons_succ, List.getElem?_cons_zero]; rfl) (by kernel_rfl) (by kernel_rfl) (by kernel_rfl) (by exact fun _ _ _ h => h) (Or.inl ⟨by simp [Region.wanted, yielded], ?_⟩) (by assumption) ?_; rotate_left; (focus (intro w hSw; (try dsimp only at hSw); first | (go_simp; done) | (go_simp; with_reducible rfl))); try simp only [Act.put, List.setIfInBounds_toArray, List.set_cons_zero, List.set_cons_succ]
            refine wpAnyH_take (i := 11) (oi := ?_) (v := ?_) (by simp only [List.getElem?_toArray, List.getElem?_cons_succ, List.getElem?_cons_zero]; rfl) (by kernel_rfl) (by kernel_rfl) (by kernel_rfl) (by exact fun _ _ _ h => h) (Or.inl ⟨by rfl, ?_⟩) (by assumption) ?_; rotate_left; (focus (intro w hSw; (try dsimp only at hSw); first | (go_simp; done) | (go_simp; with_reducible rfl))); try simp only [Act.put, List.setIfInBounds_toArray, List.set_cons_zero, List.set_cons_succ]
            refine wpAnyH_ready (rs := [12]) (by kernel_rfl) (by simp) ?_
            refine AllReadyH.cons (o := ?_) (by simp only [List.getElem?_toArray, List.getElem?_cons_succ, List.getElem?_cons_zero]; rfl) (fun K hK => ?_) AllReadyH.nil
            go_simp
            go_at_call 124
            refine (HC.out _ kd4).mono ?_
            rintro e w5 ⟨rfl, hS5, HX5⟩
            dsimp only
            refine hK.out _ _ hS5 (fun hHeld2 => ?_)
            clear hK K
            try simp only [Act.put, List.setIfInBounds_toArray, List.set_cons_zero, List.set_cons_succ]
            refine wpAnyH_done (by kernel_rfl) ?_ _
            go_wp2
            go_end0
            exact ⟨rfl, HX5.out⟩
          · have z2' : (z == 99) = false := by simpa using z2
            have d32 : w3.cell? ⟨V32, 0, none⟩ = some (.pointer (some ⟨TA, 0, none⟩)) := cell_of _ _ 0 _ _ (HS1.out.keep HSW.out.k).v32
            have HC := fun (_ : Unit) => (kset_any TA TC NK x c1 false w3 HSW.out.t hnk hx).mono (fun e w' q => (⟨q.1, q.2⟩ : e = _ ∧ Hid (KSend w3 w' TA TC NK (cset c1 x false))))
            go_upto_region 9 with (go_at_call 124; refine (HC ()).mono ?_; rintro e w4 ⟨rfl, HK4⟩)
            clear HC d32
            have HSW4 : Hid _ := HSW.out.set1 HK4.out
            clear HSW HK4
            have s4 := HS1.out.keep HSW4.out.k
            have d33 : w4.cell? ⟨V33, 0, none⟩ = some (.pointer (some ⟨OV, 0, none⟩)) := cell_of _ _ 0 _ _ s4.v33
            have HC : Hid (∀ v : World, Keep (fun _ => False) w4 v → Calls Ybaz.prog 124 #[.pointer (some ⟨OV, 0, none⟩), .int .i64 (x : Int), .bool false] v fun e w' => e = .returned (.tuple #[]) ∧ (w'.cell? ⟨V33, 0, none⟩ = some (.pointer (some ⟨OV, 0, none⟩))) ∧ Hid (SX SS w1 PB GM TA TC OV OC NK M B gn w')) := fun v kv => by
              have hv := HSW4.out.quiet kv
              refine (kset_any OV OC NK x c2 false v hv.o hnk hx).mono ?_
              rintro e w' ⟨rfl, k⟩
              have h5 := hv.set2 k
              refine ⟨rfl, cell_of _ _ 0 _ _ (HS1.out.keep h5.k).v33, ⟨_, _, _, _, _, _, _, h5, SOk'.back HOK.out (fun _ => HH.out.1), fun y hy => ?_⟩⟩
              by_cases e : y = x
              · subst e; rw [put1_at]; exact Nat.le_trans HH.out.2.1 (HB.out y hy)
              · rw [put1_ne _ _ e]; exact HB.out y hy
            clear s4
            have kd4 : Keep (fun _ => False) w4 w4.drew := (Keep.refl _ _).drew
            refine wp_region_held_drew (S := (fun w' => w'.cell? ⟨V33, 0, none⟩ = some (.pointer (some ⟨OV, 0, none⟩)))) (by kernel_rfl) d33 (fun hHeld => ?_)
            refine wpAnyH_take (i := 0) (oi := ?_) (v := ?_) (by simp only [List.getElem?_toArray, List.getElem?_cons_zero]; rfl) (by kernel_rfl) (by kernel_rfl) (by kernel_rfl) (by exact fun _ _ _ h => h) (Or.inl ⟨by rfl, ?_⟩) (by assumption) ?_; rotate_left; (focus (intro w hSw; (try dsimp only at hSw); first | (go_simp; done) | (go_simp; with_reducible rfl))); try simp only [Act.put, List.setIfInBounds_toArray, List.set_cons_zero, List.set_cons_succ]
            refine wpAnyH_take (i := 1) (oi := ?_) (v := ?_) (by simp only [List.getElem?_toArray, List.getElem?_cons_succ, List.getElem?_cons_zero]; rfl) (by kernel_rfl) (by kernel_rfl) (by kernel_rfl) (by exact fun _ _ _ h => h) (Or.inl ⟨by rfl, ?_⟩) (by assumption) ?_; rotate_left; (focus (intro w hSw; (try dsimp only at hSw); first | (go_simp; done) | (go_simp; with_reducible rfl))); try simp only [Act.put, List.setIfInBounds_toArray, List.set_cons_zero, List.set_cons_succ]
            refine wpAnyH_take (i := 2) (oi := ?_) (v := ?_) (by simp only [List.getElem?_toArray, List.getElem?_cons_succ, List.getElem?_cons_zero]; rfl) (by kernel_rfl) (by kernel_rfl) (by kernel_rfl) (by exact fun _ _ _ h => h) (Or.inl ⟨by rfl, ?_⟩) (by assumption) ?_; rotate_left; (focus (intro w hSw; (try dsimp only at hSw); first | (go_simp; done) | (go_simp; with_reducible rfl))); try simp only [Act.put, List.setIfInBounds_toArray, List.set_cons_zero, List.set_cons_succ]
            refine wpAnyH_take (i := 3) (oi := ?_) (v := ?_) (by simp only [List.getElem?_toArray, List.getElem?_cons_succ, List.getElem?_cons_zero]; rfl) (by kernel_rfl) (by kernel_rfl) (by kernel_rfl) (by exact fun _ _ _ h => h) (Or.inl ⟨by rfl, ?_⟩) (by assumption) ?_; rotate_left; (focus (intro w hSw; (try dsimp only at hSw); first | (go_simp; done) | (go_simp; with_reducible rfl))); try simp only [Act.put, List.setIfInBounds_toArray, List.set_cons_zero, List.set_cons_succ]
            refine wpAnyH_take (i := 4) (oi := ?_) (v := ?_) (by simp only [List.getElem?_toArray, List.getElem?_cons_succ, List.getElem?_cons_zero]; rfl) (by kernel_rfl) (by kernel_rfl) (by kernel_rfl) (by exact fun _ _ _ h => h) (Or.inl ⟨by rfl, ?_⟩) (by assumption) ?_; rotate_left; (focus (intro w hSw; (try dsimp only at hSw); first | (go_simp; done) | (go_simp; with_reducible rfl))); try simp only [Act.put, List.setIfInBounds_toArray, List.set_cons_zero, List.set_cons_succ]
            refine wpAnyH_take (i := 5) (oi := ?_) (v := ?_) (by simp only [List.getElem?_toArray, List.getElem?_cons_succ, List.getElem?_cons_zero]; rfl) (by kernel_rfl) (by kernel_rfl) (by kernel_rfl) (by exact fun _ _ _ h => h) (Or.inl ⟨by rfl, ?_⟩) (by assumption) ?_; rotate_left; (focus (intro w hSw; (try dsimp only at hSw); first | (go_simp; done) | (go_simp; with_reducible rfl))); try simp only [Act.put, List.setIfInBounds_toArray, List.set_cons_zero, List.set_cons_succ]
            refine wpAnyH_take (i := 6) (oi := ?_) (v := undef) (by simp only [List.getElem?_toArray, List.getElem?_cons_succ, List.getElem?_cons_zero]; rfl) (by kernel_rfl) (by kernel_rfl) (by kernel_rfl) (by exact fun _ _ _ h => h) (Or.inr ⟨by simp [Region.wanted, yielded], rfl⟩) (by assumption) ?_; try simp only [Act.put, List.setIfInBounds_toArray, List.set_cons_zero, List.set_cons_succ]
            refine wpAnyH_take (i := 7) (oi := ?_) (v := undef) (by simp only [List.getElem?_toArray, List.getElem?_cons_succ, List.getElem?_cons_zero]; rfl) (by kernel_rfl) (by kernel_rfl) (by kernel_rfl) (by exact fun _ _ _ h => h) (Or.inr ⟨by simp [Region.wanted, yielded], rfl⟩) (by assumption) ?_; try simp only [Act.put, List.setIfInBounds_toArray, List.set_cons_zero, List.set_cons_succ]
            refine wpAnyH_take (i := 8) (oi := ?_) (v := undef) (by simp only [List.getElem?_toArray, List.getElem?_cons_succ, List.getElem?_cons_zero]; rfl) (by kernel_rfl) (by kernel_rfl) (by kernel_rfl) (by exact fun _ _ _ h => h) (Or.inr ⟨by simp [Region.wanted, yielded], rfl⟩) (by assumption) ?_; try simp only [Act.put, List.setIfInBounds_toArray, List.set_cons_zero, List.set_cons_succ]
            refine wpAnyH_take (i := 9) (oi := ?_) (v := undef) (by simp only [List.getElem?_toArray, List.getElem?_cons_succ, List.getElem?_cons_zero]; rfl) (by kernel_rfl) (by kernel_rfl) (by kernel_rfl) (by exact fun _ _ _ h => h) (Or.inr ⟨by simp [Region.wanted, yielded], rfl⟩) (by assumption) ?_; try simp only [Act.put, List.setIfInBounds_toArray, List.set_cons_zero, List.set_cons_succ]
            refine wpAnyH_take (i := 10) (oi := ?_) (v := undef) (by simp only [List.getElem?_toArray, List.getElem?_cons_succ, List.getElem?_cons_zero]; rfl) (by kernel_rfl) (by kernel_rfl) (by kernel_rfl) (by exact fun _ _ _ h => h) (Or.inr ⟨by simp [Region.wanted, yielded], rfl⟩) (by assumption) ?_; try simp only [Act.put, List.setIfInBounds_toArray, List.set_cons_zero, List.set_cons_succ]
            refine wpAnyH_take (i := 11) (oi := ?_) (v := ?_) (by simp only [List.getElem?_toArray, List.getElem?_cons_succ, List.getElem?_cons_zero]; rfl) (by kernel_rfl) (by kernel_rfl) (by kernel_rfl) (by exact fun _ _ _ h => h) (Or.inl ⟨by rfl, ?_⟩) (by assumption) ?_; rotate_left; (focus (intro w hSw; (try dsimp only at hSw); first | (go_simp; done) | (go_simp; with_reducible rfl))); try simp only [Act.put, List.setIfInBounds_toArray, List.set_cons_zero, List.set_cons_succ]
            refine wpAnyH_ready (rs := [12]) (by kernel_rfl) (by simp) ?_
            refine AllReadyH.cons (o := ?_) (by simp only [List.getElem?_toArray, List.getElem?_cons_succ, List.getElem?_cons_zero]; rfl) (fun K hK => ?_) AllReadyH.nil
            go_simp
            go_at_call 124
            refine (HC.out _ kd4).mono ?_
            rintro e w5 ⟨rfl, hS5, HX5⟩
            dsimp only
            refine hK.out _ _ hS5 (fun hHeld2 => ?_)
            clear hK K
            try simp only [Act.put, List.setIfInBounds_toArray, List.set_cons_zero, List.set_cons_succ]
            refine wpAnyH_done (by kernel_rfl) ?_ _
            go_wp2
            go_end0
            exact ⟨rfl, HX5.out⟩
      · go_wp2
        go_roundg p
        case measure => omega
        case rel => exact ⟨p, by omega, rfl, rfl, HK2⟩
end Go.Proofs.YbulkdvbsGreat

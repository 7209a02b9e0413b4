/-
  cycleAnomalies$4 ('try'), walked.
-/
import Derived.Test.YbulkdvbsGreatClo
import Derived.Deep.CutBlock
namespace Go.Proofs.YbulkdvbsGreat
open Go.RowKit

/-- The three flags. -/
structure FW (w : World) (b19 b20 b21 : Nat) (sg sw pr : Bool) : Prop where
  f1 : w.heap[b19]? = some (.cells #[.bool sg] 4)
  f2 : w.heap[b20]? = some (.cells #[.bool sw] 4)
  f3 : w.heap[b21]? = some (.cells #[.bool pr] 4)
  ne : b19 ≠ b20 ∧ b19 ≠ b21 ∧ b20 ≠ b21
theorem FW.keep {w w' : World} {b19 b20 b21 : Nat} {sg sw pr : Bool} (h : FW w b19 b20 b21 sg sw pr) {F : Nat → Prop} (k : Keep F w w') (hF : ∀ b, (b = b19 ∨ b = b20 ∨ b = b21) → ¬ F b) : FW w' b19 b20 b21 sg sw pr :=
  ⟨k.at h.f1 (hF _ (.inl rfl)), k.at h.f2 (hF _ (.inr (.inl rfl))), k.at h.f3 (hF _ (.inr (.inr rfl))), h.ne⟩
theorem FW.set1 {w : World} {b19 b20 b21 : Nat} {sg sw pr : Bool} (h : FW w b19 b20 b21 sg sw pr) : FW (w.setCell ⟨b19, 0, none⟩ (.bool true)) b19 b20 b21 true sw pr := by
  have k := Keep.setCell w ⟨b19, 0, none⟩ (.bool true)
  exact ⟨heap_set w b19 0 _ _ _ h.f1, k.at h.f2 (fun q => h.ne.1 q.symm), k.at h.f3 (fun q => h.ne.2.1 q.symm), h.ne⟩
theorem FW.set2 {w : World} {b19 b20 b21 : Nat} {sg sw pr : Bool} (h : FW w b19 b20 b21 sg sw pr) : FW (w.setCell ⟨b20, 0, none⟩ (.bool true)) b19 b20 b21 sg true pr := by
  have k := Keep.setCell w ⟨b20, 0, none⟩ (.bool true)
  exact ⟨k.at h.f1 h.ne.1, heap_set w b20 0 _ _ _ h.f2, k.at h.f3 (fun q => h.ne.2.2 q.symm), h.ne⟩
/-- It answers yes or no. -/
def RetB (e : Ending) : Prop := ∃ r : Bool, e = .returned (.bool r)
def bn (b : Bool) : Nat := if b then 0 else 1
/-- Behind try. -/
def TNext (w w' : World) (b10 : Nat) (fb : Option Addr) (fl S G n RE PA VI b19 b20 b21 : Nat) (sg sw pr : Bool) : Prop := ∃ fb' fl' sg' sw', MW w' b10 fb' fl' S G n RE PA VI ∧ (fb' = fb ∨ ∃ b, fb' = some ⟨b, 0, none⟩ ∧ w.heap.size ≤ b) ∧ FW w' b19 b20 b21 sg' sw' pr ∧ Keep (fun b => mB b10 fb S RE PA VI b ∨ b = b19 ∨ b = b20) w w' ∧ fl' + bn sg' + bn sw' ≤ fl + bn sg + bn sw
section
variable {G n E : Nat} {la : Option Addr} {lc : Nat} {ga : Option Addr} {gc FB NX KN : Nat} {ah : Value} {first : Nat → Nat} {next kd : Nat → Int} {b5 TX tc : Nat} {tx : Nat → Int} {b6 CO : Nat} {comp : Nat → Int} {b10 b11 b12 S b13 FL : Nat} {flow : Nat → Int} {RE PA VI : Nat} {fb : Option Addr} {fl : Nat}

set_option maxHeartbeats 8000000 in
set_option maxRecDepth 100000 in
theorem try_any (w : World) (b17 b18 IT b19 b20 b21 : Nat) (item : Nat → Int) (sg sw pr : Bool) (h : EW G n E la lc ga gc FB NX KN ah first next kd b5 TX tc tx b6 CO comp b10 b11 b12 S b13 FL flow w) (hm : MW w b10 fb fl S G n RE PA VI) (hd : ∀ b, eB G n ga FB NX KN ah b5 TX b6 CO b11 b12 b13 FL b → ¬ mB b10 fb S RE PA VI b) (hf : FW w b19 b20 b21 sg sw pr)
    (c17 : w.heap[b17]? = some (.cells #[.func (.func 146) #[] #[.pointer (some ⟨b13, 0, none⟩), .pointer (some ⟨b12, 0, none⟩), .pointer (some ⟨b6, 0, none⟩)]] 247)) (c18 : w.heap[b18]? = some (.cells #[.slice (some ⟨IT, 0, none⟩) n n] 95)) (ri : Row w IT n (fun i => .int .i32 (item i))) (hIT : IT < w.heap.size)
    (hx : ∀ b, (b = b17 ∨ b = b18 ∨ b = IT) → ¬ mB b10 fb S RE PA VI b ∧ b ≠ b19 ∧ b ≠ b20) (hy : ∀ b, eB G n ga FB NX KN ah b5 TX b6 CO b11 b12 b13 FL b → b ≠ b19 ∧ b ≠ b20) (hz : ∀ b, mB b10 fb S RE PA VI b → b ≠ b19 ∧ b ≠ b20 ∧ b ≠ b21) (u v : Nat) (hu : u < n) (hv : v < n) (hfl : fl ≤ 50) :
    Calls Ybaz.prog 147 #[.int .i64 (u : Int), .int .i64 (v : Int), .int .u8 4, .pointer (some ⟨b21, 0, none⟩), .pointer (some ⟨b20, 0, none⟩), .pointer (some ⟨b18, 0, none⟩), .pointer (some ⟨b19, 0, none⟩), .pointer (some ⟨b17, 0, none⟩), .pointer (some ⟨b11, 0, none⟩), .pointer (some ⟨b12, 0, none⟩), .pointer (some ⟨b6, 0, none⟩)] w fun e w' => RetB e ∧ TNext w w' b10 fb fl S G n RE PA VI b19 b20 b21 sg sw pr := by
  have u1 : (u : Int) < (n : Int) := by omega
  have u2 : (u : Int).toNat = u := by omega
  have v1 : (v : Int) < (n : Int) := by omega
  have v2 : (v : Int).toNat = v := by omega
  have H0 : Hid _ := h
  have HM0 : Hid _ := hm
  have HD0 : Hid _ := hd
  have HF0 : Hid _ := hf
  have H17 : Hid _ := c17
  have H18 : Hid _ := c18
  have HRI : Hid _ := ri
  have HX : Hid _ := hx
  have HY : Hid _ := hy
  have HZ : Hid _ := hz
  clear h hm hd hf c17 c18 ri hx hy hz
  go_enter Ybaz.func147, Ybaz.ntmps147
  go_upto_region 1 with fail
  go_cut [15] from 18 to 42 (fun s wx => (∃ nq, wx = w.drewN nq) ∧ ∃ wd, s = .bool wd ∧ (wd = true → sw = false))
  case first =>
    have c20 : w.cell? ⟨b20, 0, none⟩ = some (.bool sw) := cell_of _ _ 0 _ _ HF0.out.f2
    have cc18 : w.cell? ⟨b18, 0, none⟩ = some (.slice (some ⟨IT, 0, none⟩) n n) := cell_of _ _ 0 _ _ H18.out
    have e1 := HRI.out.cell u hu
    have e2 := HRI.out.cell v hv
    cases sw with
    | true =>
      go_quiet (fail)
      go_wp2
      go_meet
      exact ⟨⟨_, rfl⟩, _, rfl, nofun⟩
    | false =>
      go_quiet (fail)
      go_wp2
      go_meet
      exact ⟨⟨_, rfl⟩, _, rfl, fun _ => trivial⟩
  case rest =>
    obtain ⟨⟨nq, hwc⟩, wd, rfl, hwd⟩ := hcut
    have kw : Keep (fun _ => False) w wc := by rw [hwc]; exact (Keep.refl _ _).drewN _
    have HWD : Hid _ := hwd
    have HKW : Hid _ := kw
    have H1 : Hid _ := H0.out.keep kw (fun _ _ q => q)
    have HM1 : Hid _ := HM0.out.keep kw (fun _ _ q => q)
    have HF1 : Hid _ := HF0.out.keep kw (fun _ _ q => q)
    have c17 : wc.cell? ⟨b17, 0, none⟩ = some (.func (.func 146) #[] #[.pointer (some ⟨b13, 0, none⟩), .pointer (some ⟨b12, 0, none⟩), .pointer (some ⟨b6, 0, none⟩)]) := cell_of _ _ 0 _ _ (kw.at H17.out id)
    have HC := fun _ : Unit => closed_any wc H1.out HM1.out HD0.out u v hu hv
    have c19 : wc.cell? ⟨b19, 0, none⟩ = some (.bool sg) := cell_of _ _ 0 _ _ HF1.out.f1
    have c20 : wc.cell? ⟨b20, 0, none⟩ = some (.bool sw) := cell_of _ _ 0 _ _ HF1.out.f2
    clear hwd hwc kw
    cases sg with
    | true =>
      cases wd with
      | false =>
        go_wp2
        go_ret
        exact ⟨⟨_, rfl⟩, fb, fl, true, sw, HM1.out, .inl rfl, HF1.out, HKW.out.wide (fun _ q => q.elim), Nat.le_refl _⟩
      | true =>
        go_upto_region 7 with (first
          | (go_at_call 146; refine (HC ()).mono ?_; clear HC; rintro e w2 ⟨⟨back, edges, rfl, hpe⟩, hs2, hk2⟩))
        obtain ⟨⟨hn1, hn2⟩, m, f, dd, hm6, hb, he, hfn, hnil⟩ := hpe
        have hF2 : FW w2 b19 b20 b21 true sw pr := HF1.out.keep hk2 (fun b hb q => by have := HZ.out b (.inr (.inr q)); omega)
        have h2 := H1.out.keep hk2 (fun b hb q => HD0.out b hb (.inr (.inr q)))
        have hM2 : MW w2 b10 fb fl S G n RE PA VI := ⟨HM1.out.fd.keep hk2 HM1.out.d1 HM1.out.d2, hs2, HM1.out.d1, HM1.out.d2⟩
        have hk02 : Keep (sOwn S RE PA VI) w w2 := (HKW.out.wide (fun _ q => q.elim)).trans hk2 (fun _ q => .inl q)
        have c19 : w2.cell? ⟨b19, 0, none⟩ = some (.bool true) := cell_of _ _ 0 _ _ hF2.f1
        have c20 : w2.cell? ⟨b20, 0, none⟩ = some (.bool sw) := cell_of _ _ 0 _ _ hF2.f2
        have z19 := free_of w2 b19 0 _ _ hF2.f1
        have z20 := free_of w2 b20 0 _ _ hF2.f2
        have HF2 : Hid _ := hF2
        have H2 : Hid _ := h2
        have HM2 : Hid _ := hM2
        have HK2 : Hid _ := hk02
        have HN1 : Hid _ := hn1
        have HN2 : Hid _ := hn2
        have HB : Hid _ := hb
        have HE : Hid _ := he
        have HFN : Hid _ := hfn
        clear hF2 h2 hM2 hk02 hk2 hs2 hn1 hn2 hb he hfn
        rcases hnil with rfl | ⟨A, cA, rfl⟩
        · as_aux_lemma =>
            have hsw := HWD.out (by first | rfl | trivial)
            have k3 := Keep.setCell w2 ⟨b20, 0, none⟩ (.bool true)
            have hF3 := HF2.out.set2
            have h3 := H2.out.keep k3 (fun b hb q => (HY.out b hb).2 q)
            have hM3 := HM2.out.keep k3 (fun b hb q => (HZ.out b hb).2.1 q)
            have hx18 := HX.out b18 (.inr (.inl rfl))
            have hxIT := HX.out IT (.inr (.inr rfl))
            have hb18 : (w2.setCell ⟨b20, 0, none⟩ (.bool true)).heap[b18]? = some (.cells #[.slice (some ⟨IT, 0, none⟩) n n] 95) := k3.at (HK2.out.at H18.out (fun q => hx18.1 (.inr (.inr q)))) hx18.2.2
            have hrI : Row (w2.setCell ⟨b20, 0, none⟩ (.bool true)) IT n (fun i => .int .i32 (item i)) := (HRI.out.keep (HK2.out.block IT hIT (fun q => hxIT.1 (.inr (.inr q))))).keep (k3.block IT (Nat.lt_of_lt_of_le hIT HK2.out.size) hxIT.2.2)
            have c12 : (w2.setCell ⟨b20, 0, none⟩ (.bool true)).cell? ⟨b12, 0, none⟩ = some (.pointer (some ⟨S, 0, none⟩)) := cell_of _ _ 0 _ _ h3.c12
            have c18 : (w2.setCell ⟨b20, 0, none⟩ (.bool true)).cell? ⟨b18, 0, none⟩ = some (.slice (some ⟨IT, 0, none⟩) n n) := cell_of _ _ 0 _ _ hb18
            have HPT := fun _ : Unit => path_in _ h3 hM3 HD0.out IT item hrI (Nat.lt_of_lt_of_le hIT (Nat.le_trans HK2.out.size k3.size)) (fun q => hxIT.1 (.inr (.inr q))) (.slice none 0 0) (.inl rfl) v u hv hu 7 (.inr ⟨by decide, by decide⟩)
            have HF3 : Hid _ := hF3
            have HM3 : Hid _ := hM3
            have H3 : Hid _ := h3
            have HK3 : Hid (Keep (fun b => mB b10 fb S RE PA VI b ∨ b = b19 ∨ b = b20) w (w2.setCell ⟨b20, 0, none⟩ (.bool true))) := (HK2.out.wide (fun b q => .inl (.inr (.inr q)))).trans k3 (fun b q => .inl (.inr (.inr q)))
            clear hF3 hM3 h3 k3 hb18 hrI hx18 hxIT
            go_upto_region 13 with fail
            generalize w2.setCell ⟨b20, 0, none⟩ (.bool true) = w3 at *
            clear c19 c20 z19 z20
            go_upto_region 14 with (first
              | (go_at_call 139; refine (HPT ()).mono ?_; clear HPT; rintro e w5 ⟨⟨back5, edges5, rfl, hpe5⟩, hs5, hk5⟩))
            obtain ⟨_, m5, f5, dd5, hm65, hb5, he5, hfn5, _⟩ := hpe5
            have h5 := H3.out.keep hk5 (fun b hb q => HD0.out b hb (.inr (.inr q)))
            have hM5 : MW w5 b10 fb fl S G n RE PA VI := ⟨HM3.out.fd.keep hk5 HM3.out.d1 HM3.out.d2, hs5, HM3.out.d1, HM3.out.d2⟩
            have hF5 := HF3.out.keep hk5 (fun b hb q => by have := HZ.out b (.inr (.inr q)); omega)
            have hK5 : Keep (fun b => mB b10 fb S RE PA VI b ∨ b = b19 ∨ b = b20) w w5 := HK3.out.trans hk5 (fun b q => .inl (.inl (.inr (.inr q))))
            have HAD := fun _ : Unit => add_any b5 b10 TX n tc tx 5 u m5 4 back5 edges5 f5 dd5 fb fl w5 hM5.fd h5.t5 h5.rx (h5.lt _ (.inr (.inr (.inl rfl)))) hu hm65 hb5 hfn5 he5 (by omega) ⟨by decide, by decide⟩
            have c11 : w5.cell? ⟨b11, 0, none⟩ = some (.func (.func 141) #[] #[.pointer (some ⟨b5, 0, none⟩), .pointer (some ⟨b10, 0, none⟩)]) := cell_of _ _ 0 _ _ h5.c11
            clear HF3 HM3 HK3 H3
            have HF3 : Hid _ := hF5
            have HM3 : Hid _ := hM5
            have HK3 : Hid _ := hK5
            clear hF5 hM5 h5 hs5 hk5 hb5 he5 hfn5 hK5 c12 c18
            go_upto_region 15 with (first
              | (go_at_call 141; refine (HAD ()).mono ?_; clear HAD; rintro e w4 ⟨rfl, ha4⟩))
            subst hsw
            obtain ⟨fb4, g1, g2, g3⟩ := ha4
            have HT : Hid (TNext w w4 b10 fb fl S G n RE PA VI b19 b20 b21 true false pr ∧ FW w4 b19 b20 b21 true true pr) := by
              have hF4 : FW w4 b19 b20 b21 true true pr := HF3.out.keep g3 (fun b hb q => by
                rcases q with q | q
                · have := HZ.out b (.inl q); omega
                · have := HZ.out b (.inr (.inl q)); omega)
              obtain ⟨k0, re, pa, vi, hs⟩ := HM3.out.sr
              refine ⟨⟨fb4, fl + 1, true, true, ⟨g1, ⟨k0, re, pa, vi, hs.keep g3 ?_⟩, HM3.out.d1, ?_⟩, ?_, hF4, HK3.out.trans g3 ?_, (by simp [bn] <;> omega)⟩, hF4⟩
              · rintro b hb (q | q)
                · subst q; exact HM3.out.d1 hb
                · exact HM3.out.d2 b q hb
              · intro b hb q
                rcases g2 with r | ⟨b', r, r2⟩
                · rw [r] at hb; exact HM3.out.d2 b hb q
                · rw [r] at hb; injection hb with hb; injection hb with hb
                  have := hs.own b q; omega
              · rcases g2 with r | ⟨b', r, r2⟩
                · exact .inl r
                · exact .inr ⟨b', r, by have := HK3.out.size; omega⟩
              · rintro b (q | q)
                · exact .inl (.inl (.inl q))
                · exact .inl (.inl (.inr (.inl q)))
            clear g1 g2 g3
            have c19 : w4.cell? ⟨b19, 0, none⟩ = some (.bool true) := cell_of _ _ 0 _ _ HT.out.2.f1
            have c20 : w4.cell? ⟨b20, 0, none⟩ = some (.bool true) := cell_of _ _ 0 _ _ HT.out.2.f2
            go_wp2
            go_ret
            exact ⟨⟨_, rfl⟩, HT.out.1⟩
        · as_aux_lemma =>
            go_wp2
            go_ret
            exact ⟨⟨_, rfl⟩, fb, fl, true, sw, HM2.out, .inl rfl, HF2.out, HK2.out.wide (fun b q => .inl (.inr (.inr q))), Nat.le_refl _⟩
    | false =>
      cases wd with
      | false =>
        go_upto_region 7 with (first
          | (go_at_call 146; refine (HC ()).mono ?_; clear HC; rintro e w2 ⟨⟨back, edges, rfl, hpe⟩, hs2, hk2⟩))
        obtain ⟨⟨hn1, hn2⟩, m, f, dd, hm6, hb, he, hfn, hnil⟩ := hpe
        have hF2 : FW w2 b19 b20 b21 false sw pr := HF1.out.keep hk2 (fun b hb q => by have := HZ.out b (.inr (.inr q)); omega)
        have h2 := H1.out.keep hk2 (fun b hb q => HD0.out b hb (.inr (.inr q)))
        have hM2 : MW w2 b10 fb fl S G n RE PA VI := ⟨HM1.out.fd.keep hk2 HM1.out.d1 HM1.out.d2, hs2, HM1.out.d1, HM1.out.d2⟩
        have hk02 : Keep (sOwn S RE PA VI) w w2 := (HKW.out.wide (fun _ q => q.elim)).trans hk2 (fun _ q => .inl q)
        have c19 : w2.cell? ⟨b19, 0, none⟩ = some (.bool false) := cell_of _ _ 0 _ _ hF2.f1
        have c20 : w2.cell? ⟨b20, 0, none⟩ = some (.bool sw) := cell_of _ _ 0 _ _ hF2.f2
        have z19 := free_of w2 b19 0 _ _ hF2.f1
        have z20 := free_of w2 b20 0 _ _ hF2.f2
        have HF2 : Hid _ := hF2
        have H2 : Hid _ := h2
        have HM2 : Hid _ := hM2
        have HK2 : Hid _ := hk02
        have HN1 : Hid _ := hn1
        have HN2 : Hid _ := hn2
        have HB : Hid _ := hb
        have HE : Hid _ := he
        have HFN : Hid _ := hfn
        clear hF2 h2 hM2 hk02 hk2 hs2 hn1 hn2 hb he hfn
        rcases hnil with rfl | ⟨A, cA, rfl⟩
        · as_aux_lemma =>
            go_wp2
            go_ret
            exact ⟨⟨_, rfl⟩, fb, fl, false, sw, HM2.out, .inl rfl, HF2.out, HK2.out.wide (fun b q => .inl (.inr (.inr q))), Nat.le_refl _⟩
        · as_aux_lemma =>
            have k3 := Keep.setCell w2 ⟨b19, 0, none⟩ (.bool true)
            have hF3 := HF2.out.set1
            have h3 := H2.out.keep k3 (fun b hb q => (HY.out b hb).1 q)
            have hM3 := HM2.out.keep k3 (fun b hb q => (HZ.out b hb).1 q)
            have hl19 := heap_lt HF0.out.f1
            have HAD := fun _ : Unit => add_any b5 b10 TX n tc tx 4 u m 4 (.slice (some ⟨A, 0, none⟩) m cA) edges f dd fb fl _ hM3.fd h3.t5 h3.rx (h3.lt _ (.inr (.inr (.inl rfl)))) hu hm6 (Src1.keepN HB.out HN1.out k3 (fun b q => by have q2 : b = b19 := q; have := HKW.out.size; omega)) HFN.out (Src1.keepN HE.out HN2.out k3 (fun b q => by have q2 : b = b19 := q; have := HKW.out.size; omega)) (by omega) ⟨by decide, by decide⟩
            have c11 : (w2.setCell ⟨b19, 0, none⟩ (.bool true)).cell? ⟨b11, 0, none⟩ = some (.func (.func 141) #[] #[.pointer (some ⟨b5, 0, none⟩), .pointer (some ⟨b10, 0, none⟩)]) := cell_of _ _ 0 _ _ h3.c11
            have HF3 : Hid _ := hF3
            have HM3 : Hid _ := hM3
            have HK3 : Hid (Keep (fun b => mB b10 fb S RE PA VI b ∨ b = b19 ∨ b = b20) w (w2.setCell ⟨b19, 0, none⟩ (.bool true))) := (HK2.out.wide (fun b q => .inl (.inr (.inr q)))).trans k3 (fun b q => .inl (.inr (.inl q)))
            clear hF3 hM3 h3 k3
            go_upto_region 9 with fail
            generalize w2.setCell ⟨b19, 0, none⟩ (.bool true) = w3 at *
            clear c19 c20 z19 z20
            go_upto_region 15 with (first
              | (go_at_call 141; refine (HAD ()).mono ?_; clear HAD; rintro e w4 ⟨rfl, ha4⟩))
            obtain ⟨fb4, g1, g2, g3⟩ := ha4
            have HT : Hid (TNext w w4 b10 fb fl S G n RE PA VI b19 b20 b21 false sw pr ∧ FW w4 b19 b20 b21 true sw pr) := by
              have hF4 : FW w4 b19 b20 b21 true sw pr := HF3.out.keep g3 (fun b hb q => by
                rcases q with q | q
                · have := HZ.out b (.inl q); omega
                · have := HZ.out b (.inr (.inl q)); omega)
              obtain ⟨k0, re, pa, vi, hs⟩ := HM3.out.sr
              refine ⟨⟨fb4, fl + 1, true, sw, ⟨g1, ⟨k0, re, pa, vi, hs.keep g3 ?_⟩, HM3.out.d1, ?_⟩, ?_, hF4, HK3.out.trans g3 ?_, (by simp [bn] <;> omega)⟩, hF4⟩
              · rintro b hb (q | q)
                · subst q; exact HM3.out.d1 hb
                · exact HM3.out.d2 b q hb
              · intro b hb q
                rcases g2 with r | ⟨b', r, r2⟩
                · rw [r] at hb; exact HM3.out.d2 b hb q
                · rw [r] at hb; injection hb with hb; injection hb with hb
                  have := hs.own b q; omega
              · rcases g2 with r | ⟨b', r, r2⟩
                · exact .inl r
                · exact .inr ⟨b', r, by have := HK3.out.size; omega⟩
              · rintro b (q | q)
                · exact .inl (.inl (.inl q))
                · exact .inl (.inl (.inr (.inl q)))
            clear g1 g2 g3
            have c19 : w4.cell? ⟨b19, 0, none⟩ = some (.bool true) := cell_of _ _ 0 _ _ HT.out.2.f1
            have c20 : w4.cell? ⟨b20, 0, none⟩ = some (.bool sw) := cell_of _ _ 0 _ _ HT.out.2.f2
            go_wp2
            go_ret
            exact ⟨⟨_, rfl⟩, HT.out.1⟩
      | true =>
        go_upto_region 7 with (first
          | (go_at_call 146; refine (HC ()).mono ?_; clear HC; rintro e w2 ⟨⟨back, edges, rfl, hpe⟩, hs2, hk2⟩))
        obtain ⟨⟨hn1, hn2⟩, m, f, dd, hm6, hb, he, hfn, hnil⟩ := hpe
        have hF2 : FW w2 b19 b20 b21 false sw pr := HF1.out.keep hk2 (fun b hb q => by have := HZ.out b (.inr (.inr q)); omega)
        have h2 := H1.out.keep hk2 (fun b hb q => HD0.out b hb (.inr (.inr q)))
        have hM2 : MW w2 b10 fb fl S G n RE PA VI := ⟨HM1.out.fd.keep hk2 HM1.out.d1 HM1.out.d2, hs2, HM1.out.d1, HM1.out.d2⟩
        have hk02 : Keep (sOwn S RE PA VI) w w2 := (HKW.out.wide (fun _ q => q.elim)).trans hk2 (fun _ q => .inl q)
        have c19 : w2.cell? ⟨b19, 0, none⟩ = some (.bool false) := cell_of _ _ 0 _ _ hF2.f1
        have c20 : w2.cell? ⟨b20, 0, none⟩ = some (.bool sw) := cell_of _ _ 0 _ _ hF2.f2
        have z19 := free_of w2 b19 0 _ _ hF2.f1
        have z20 := free_of w2 b20 0 _ _ hF2.f2
        have HF2 : Hid _ := hF2
        have H2 : Hid _ := h2
        have HM2 : Hid _ := hM2
        have HK2 : Hid _ := hk02
        have HN1 : Hid _ := hn1
        have HN2 : Hid _ := hn2
        have HB : Hid _ := hb
        have HE : Hid _ := he
        have HFN : Hid _ := hfn
        clear hF2 h2 hM2 hk02 hk2 hs2 hn1 hn2 hb he hfn
        rcases hnil with rfl | ⟨A, cA, rfl⟩
        · as_aux_lemma =>
            have hsw := HWD.out (by first | rfl | trivial)
            have k3 := Keep.setCell w2 ⟨b20, 0, none⟩ (.bool true)
            have hF3 := HF2.out.set2
            have h3 := H2.out.keep k3 (fun b hb q => (HY.out b hb).2 q)
            have hM3 := HM2.out.keep k3 (fun b hb q => (HZ.out b hb).2.1 q)
            have hx18 := HX.out b18 (.inr (.inl rfl))
            have hxIT := HX.out IT (.inr (.inr rfl))
            have hb18 : (w2.setCell ⟨b20, 0, none⟩ (.bool true)).heap[b18]? = some (.cells #[.slice (some ⟨IT, 0, none⟩) n n] 95) := k3.at (HK2.out.at H18.out (fun q => hx18.1 (.inr (.inr q)))) hx18.2.2
            have hrI : Row (w2.setCell ⟨b20, 0, none⟩ (.bool true)) IT n (fun i => .int .i32 (item i)) := (HRI.out.keep (HK2.out.block IT hIT (fun q => hxIT.1 (.inr (.inr q))))).keep (k3.block IT (Nat.lt_of_lt_of_le hIT HK2.out.size) hxIT.2.2)
            have c12 : (w2.setCell ⟨b20, 0, none⟩ (.bool true)).cell? ⟨b12, 0, none⟩ = some (.pointer (some ⟨S, 0, none⟩)) := cell_of _ _ 0 _ _ h3.c12
            have c18 : (w2.setCell ⟨b20, 0, none⟩ (.bool true)).cell? ⟨b18, 0, none⟩ = some (.slice (some ⟨IT, 0, none⟩) n n) := cell_of _ _ 0 _ _ hb18
            have HPT := fun _ : Unit => path_in _ h3 hM3 HD0.out IT item hrI (Nat.lt_of_lt_of_le hIT (Nat.le_trans HK2.out.size k3.size)) (fun q => hxIT.1 (.inr (.inr q))) (.slice none 0 0) (.inl rfl) v u hv hu 7 (.inr ⟨by decide, by decide⟩)
            have HF3 : Hid _ := hF3
            have HM3 : Hid _ := hM3
            have H3 : Hid _ := h3
            have HK3 : Hid (Keep (fun b => mB b10 fb S RE PA VI b ∨ b = b19 ∨ b = b20) w (w2.setCell ⟨b20, 0, none⟩ (.bool true))) := (HK2.out.wide (fun b q => .inl (.inr (.inr q)))).trans k3 (fun b q => .inl (.inr (.inr q)))
            clear hF3 hM3 h3 k3 hb18 hrI hx18 hxIT
            go_upto_region 13 with fail
            generalize w2.setCell ⟨b20, 0, none⟩ (.bool true) = w3 at *
            clear c19 c20 z19 z20
            go_upto_region 14 with (first
              | (go_at_call 139; refine (HPT ()).mono ?_; clear HPT; rintro e w5 ⟨⟨back5, edges5, rfl, hpe5⟩, hs5, hk5⟩))
            obtain ⟨_, m5, f5, dd5, hm65, hb5, he5, hfn5, _⟩ := hpe5
            have h5 := H3.out.keep hk5 (fun b hb q => HD0.out b hb (.inr (.inr q)))
            have hM5 : MW w5 b10 fb fl S G n RE PA VI := ⟨HM3.out.fd.keep hk5 HM3.out.d1 HM3.out.d2, hs5, HM3.out.d1, HM3.out.d2⟩
            have hF5 := HF3.out.keep hk5 (fun b hb q => by have := HZ.out b (.inr (.inr q)); omega)
            have hK5 : Keep (fun b => mB b10 fb S RE PA VI b ∨ b = b19 ∨ b = b20) w w5 := HK3.out.trans hk5 (fun b q => .inl (.inl (.inr (.inr q))))
            have HAD := fun _ : Unit => add_any b5 b10 TX n tc tx 5 u m5 4 back5 edges5 f5 dd5 fb fl w5 hM5.fd h5.t5 h5.rx (h5.lt _ (.inr (.inr (.inl rfl)))) hu hm65 hb5 hfn5 he5 (by omega) ⟨by decide, by decide⟩
            have c11 : w5.cell? ⟨b11, 0, none⟩ = some (.func (.func 141) #[] #[.pointer (some ⟨b5, 0, none⟩), .pointer (some ⟨b10, 0, none⟩)]) := cell_of _ _ 0 _ _ h5.c11
            clear HF3 HM3 HK3 H3
            have HF3 : Hid _ := hF5
            have HM3 : Hid _ := hM5
            have HK3 : Hid _ := hK5
            clear hF5 hM5 h5 hs5 hk5 hb5 he5 hfn5 hK5 c12 c18
            go_upto_region 15 with (first
              | (go_at_call 141; refine (HAD ()).mono ?_; clear HAD; rintro e w4 ⟨rfl, ha4⟩))
            subst hsw
            obtain ⟨fb4, g1, g2, g3⟩ := ha4
            have HT : Hid (TNext w w4 b10 fb fl S G n RE PA VI b19 b20 b21 false false pr ∧ FW w4 b19 b20 b21 false true pr) := by
              have hF4 : FW w4 b19 b20 b21 false true pr := HF3.out.keep g3 (fun b hb q => by
                rcases q with q | q
                · have := HZ.out b (.inl q); omega
                · have := HZ.out b (.inr (.inl q)); omega)
              obtain ⟨k0, re, pa, vi, hs⟩ := HM3.out.sr
              refine ⟨⟨fb4, fl + 1, false, true, ⟨g1, ⟨k0, re, pa, vi, hs.keep g3 ?_⟩, HM3.out.d1, ?_⟩, ?_, hF4, HK3.out.trans g3 ?_, (by simp [bn] <;> omega)⟩, hF4⟩
              · rintro b hb (q | q)
                · subst q; exact HM3.out.d1 hb
                · exact HM3.out.d2 b q hb
              · intro b hb q
                rcases g2 with r | ⟨b', r, r2⟩
                · rw [r] at hb; exact HM3.out.d2 b hb q
                · rw [r] at hb; injection hb with hb; injection hb with hb
                  have := hs.own b q; omega
              · rcases g2 with r | ⟨b', r, r2⟩
                · exact .inl r
                · exact .inr ⟨b', r, by have := HK3.out.size; omega⟩
              · rintro b (q | q)
                · exact .inl (.inl (.inl q))
                · exact .inl (.inl (.inr (.inl q)))
            clear g1 g2 g3
            have c19 : w4.cell? ⟨b19, 0, none⟩ = some (.bool false) := cell_of _ _ 0 _ _ HT.out.2.f1
            have c20 : w4.cell? ⟨b20, 0, none⟩ = some (.bool true) := cell_of _ _ 0 _ _ HT.out.2.f2
            go_wp2
            go_ret
            exact ⟨⟨_, rfl⟩, HT.out.1⟩
        · as_aux_lemma =>
            have k3 := Keep.setCell w2 ⟨b19, 0, none⟩ (.bool true)
            have hF3 := HF2.out.set1
            have h3 := H2.out.keep k3 (fun b hb q => (HY.out b hb).1 q)
            have hM3 := HM2.out.keep k3 (fun b hb q => (HZ.out b hb).1 q)
            have hl19 := heap_lt HF0.out.f1
            have HAD := fun _ : Unit => add_any b5 b10 TX n tc tx 4 u m 4 (.slice (some ⟨A, 0, none⟩) m cA) edges f dd fb fl _ hM3.fd h3.t5 h3.rx (h3.lt _ (.inr (.inr (.inl rfl)))) hu hm6 (Src1.keepN HB.out HN1.out k3 (fun b q => by have q2 : b = b19 := q; have := HKW.out.size; omega)) HFN.out (Src1.keepN HE.out HN2.out k3 (fun b q => by have q2 : b = b19 := q; have := HKW.out.size; omega)) (by omega) ⟨by decide, by decide⟩
            have c11 : (w2.setCell ⟨b19, 0, none⟩ (.bool true)).cell? ⟨b11, 0, none⟩ = some (.func (.func 141) #[] #[.pointer (some ⟨b5, 0, none⟩), .pointer (some ⟨b10, 0, none⟩)]) := cell_of _ _ 0 _ _ h3.c11
            have HF3 : Hid _ := hF3
            have HM3 : Hid _ := hM3
            have HK3 : Hid (Keep (fun b => mB b10 fb S RE PA VI b ∨ b = b19 ∨ b = b20) w (w2.setCell ⟨b19, 0, none⟩ (.bool true))) := (HK2.out.wide (fun b q => .inl (.inr (.inr q)))).trans k3 (fun b q => .inl (.inr (.inl q)))
            clear hF3 hM3 h3 k3
            go_upto_region 9 with fail
            generalize w2.setCell ⟨b19, 0, none⟩ (.bool true) = w3 at *
            clear c19 c20 z19 z20
            go_upto_region 15 with (first
              | (go_at_call 141; refine (HAD ()).mono ?_; clear HAD; rintro e w4 ⟨rfl, ha4⟩))
            obtain ⟨fb4, g1, g2, g3⟩ := ha4
            have HT : Hid (TNext w w4 b10 fb fl S G n RE PA VI b19 b20 b21 false sw pr ∧ FW w4 b19 b20 b21 true sw pr) := by
              have hF4 : FW w4 b19 b20 b21 true sw pr := HF3.out.keep g3 (fun b hb q => by
                rcases q with q | q
                · have := HZ.out b (.inl q); omega
                · have := HZ.out b (.inr (.inl q)); omega)
              obtain ⟨k0, re, pa, vi, hs⟩ := HM3.out.sr
              refine ⟨⟨fb4, fl + 1, true, sw, ⟨g1, ⟨k0, re, pa, vi, hs.keep g3 ?_⟩, HM3.out.d1, ?_⟩, ?_, hF4, HK3.out.trans g3 ?_, (by simp [bn] <;> omega)⟩, hF4⟩
              · rintro b hb (q | q)
                · subst q; exact HM3.out.d1 hb
                · exact HM3.out.d2 b q hb
              · intro b hb q
                rcases g2 with r | ⟨b', r, r2⟩
                · rw [r] at hb; exact HM3.out.d2 b hb q
                · rw [r] at hb; injection hb with hb; injection hb with hb
                  have := hs.own b q; omega
              · rcases g2 with r | ⟨b', r, r2⟩
                · exact .inl r
                · exact .inr ⟨b', r, by have := HK3.out.size; omega⟩
              · rintro b (q | q)
                · exact .inl (.inl (.inl q))
                · exact .inl (.inl (.inr (.inl q)))
            clear g1 g2 g3
            have c19 : w4.cell? ⟨b19, 0, none⟩ = some (.bool true) := cell_of _ _ 0 _ _ HT.out.2.f1
            have c20 : w4.cell? ⟨b20, 0, none⟩ = some (.bool sw) := cell_of _ _ 0 _ _ HT.out.2.f2
            go_wp2
            go_ret
            exact ⟨⟨_, rfl⟩, HT.out.1⟩
end
end Go.Proofs.YbulkdvbsGreat

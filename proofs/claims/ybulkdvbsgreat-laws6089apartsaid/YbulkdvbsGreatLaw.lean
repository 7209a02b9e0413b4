/-
  The law, walked.
-/
import Derived.Test.YbulkdvbsGreatLawM
namespace Go.Proofs.YbulkdvbsGreat
open Go.RowKit
attribute [local go_sem ↓] exec_make23

set_option maxHeartbeats 2000000 in
set_option maxRecDepth 100000 in
theorem isend_yes (k : Nat) (w : World) (h : k = 99 ∨ k = 97) : Calls Ybaz.prog 6 #[.int .u8 (k : Int)] w fun e w' => e = .returned (.bool true) ∧ w = w' := by
  rcases h with rfl | rfl
  · go_enter Ybaz.func6, Ybaz.ntmps6
    go_wp2
    go_ret
    exact ⟨rfl, rfl⟩
  · go_enter Ybaz.func6, Ybaz.ntmps6
    go_wp2
    go_ret
    exact ⟨rfl, rfl⟩
set_option maxHeartbeats 2000000 in
set_option maxRecDepth 100000 in
theorem isend_no (k : Nat) (w : World) (h : ¬ (k = 99 ∨ k = 97)) : Calls Ybaz.prog 6 #[.int .u8 (k : Int)] w fun e w' => e = .returned (.bool false) ∧ w = w' := by
  have h1 : ((k : Int) == 99) = false := by simp; omega
  have h2 : ((k : Int) == 97) = false := by simp; omega
  have h3 : ¬ (k : Int) = 99 := by omega
  have h4 : ¬ (k : Int) = 97 := by omega
  clear h
  go_enter Ybaz.func6, Ybaz.ntmps6
  go_wp2
  go_ret
  exact ⟨rfl, rfl⟩
theorem cnF_up {p : Nat → Bool} {t c : Nat} (h : c = cnF p t) (hp : p t = true) : c + 1 = cnF p (t + 1) := by
  unfold cnF; rw [if_pos hp, h]
theorem cnF_same {p : Nat → Bool} {t c : Nat} (h : c = cnF p t) (hp : p t = false) : c = cnF p (t + 1) := by
  unfold cnF; rw [if_neg (by rw [hp]; simp), h, Nat.add_zero]
theorem kstr_tl {a b : Nat} (ha : a ≤ 3) (hb : b ≤ 3) (h : a ≠ b) : ((kstr a).toList == (kstr b).toList) = false := by
  have ha' : a = 0 ∨ a = 1 ∨ a = 2 ∨ a = 3 := by omega
  have hb' : b = 0 ∨ b = 1 ∨ b = 2 ∨ b = 3 := by omega
  have e : ∀ x, (kstr x).toList = (kstr x).data.toList := fun x => ByteArray.toList_eq _
  rw [e, e]
  rcases ha' with rfl | rfl | rfl | rfl <;> rcases hb' with rfl | rfl | rfl | rfl <;> first | rfl | (exact absurd rfl h)
theorem cell_lt {w : World} {b o : Nat} {v : Value} (h : w.cell? ⟨b, o, none⟩ = some v) : b < w.heap.size := by
  unfold World.cell? at h
  cases e : w.heap[b]? with
  | none => simp [e] at h
  | some _ => exact heap_lt e
set_option maxHeartbeats 16000000 in
set_option maxRecDepth 100000 in
theorem law3_of (hist : ∀ (OB M oc : Nat) (kd tx ky : Nat → Nat) (w : World), OP w OB M kd tx ky → Calls Ybaz.prog 5 #[.slice (some ⟨OB, 0, none⟩) M oc] w fun e w' => RetHistL kd tx ky M w w' e)
    (a0 : Option Addr) (m c0 b o : Nat) (X : Nat → Nat → Nat) (w : World) (hm : m ≤ 2000) (hX : ∀ i c, X i c ≤ 255) (ha : 0 < m → a0 = some ⟨b, o, none⟩) (hc : ∀ i c, i < m → c < 3 → w.cell? ⟨b, o + i * 3 + c, none⟩ = some (.int .u8 (X i c : Int))) (hb : 0 < m → b < w.heap.size) :
    Calls Ybaz.prog 3 #[.slice a0 m c0] w fun e w' => e = .returned (.bool true) ∧ Keep (fun _ => False) w w' := by
  have HH : Hid _ := hist
  have m1 : ¬ (2000 : Int) < (m : Int) := by omega
  have HC := fun (_ : Unit) => build_any a0 m c0 b o X w hm hX ha hc hb
  clear hist hX ha hc hb
  go_enter Ybaz.func3, Ybaz.ntmps3
  go_upto_region 4 with (go_at_call 4; refine (HC ()).mono ?_; clear HC; rintro e w1 ⟨OB, M, oc, kd, tx, ky, rfl, hop, hwf, hob, hk1⟩)
  have HO1 : Hid _ := hop
  have HWF : Hid _ := hwf
  have HOB : Hid _ := hob
  have HK1 : Hid _ := hk1
  have hM := hop.hM
  have hM' : (M : Int) ≤ 2000 := by omega
  clear hop hwf hob hk1
  have hmk := run_mkv 23 34 _ 7 88 Ybaz.underlying23 inf34 (by decide) w1 M (by omega)
  go_upto_region 5 with fail
  clear hmk
  have HM2 : Hid (Keep (fun _ => False) w1 (w1.alloc (.cells (mc (.agg #[.int .u8 0, .int .u64 0, .string ⟨#[]⟩, .string ⟨#[]⟩, .bool false, .int .u64 0, .slice none 0 0]) 7 M) 34)) ∧ (∃ f, RowK (w1.alloc (.cells (mc (.agg #[.int .u8 0, .int .u64 0, .string ⟨#[]⟩, .string ⟨#[]⟩, .bool false, .int .u64 0, .slice none 0 0]) 7 M) 34)) w1.heap.size M 7 f) ∧ w1.heap.size < (w1.alloc (.cells (mc (.agg #[.int .u8 0, .int .u64 0, .string ⟨#[]⟩, .string ⟨#[]⟩, .bool false, .int .u64 0, .slice none 0 0]) 7 M) 34)).heap.size ∧ OB < w1.heap.size ∧ w.heap.size ≤ w1.heap.size) :=
    ⟨Keep.alloc _ _ _, made7 w1 M, by rw [World.size_alloc]; omega, HO1.out.lt, HK1.out.size⟩
  generalize (w1.alloc (.cells (mc (.agg #[.int .u8 0, .int .u64 0, .string ⟨#[]⟩, .string ⟨#[]⟩, .bool false, .int .u64 0, .slice none 0 0]) 7 M) 34)) = w2 at *
  generalize w1.heap.size = CB at *
  obtain ⟨fz, hfz⟩ := HM2.out.2.1
  obtain ⟨w3, hcp, hcr, hk3⟩ := run_copy7 w2 CB OB M M oc (opc kd tx ky) fz (fun i c => opc_one _ _ _ _ _) ((HO1.out.keep HM2.out.1 id).row) hfz
  have hgi : goInt M = .int .i64 (M : Int) := rfl
  have HO3 : Hid (OP w3 OB M kd tx ky) := (HO1.out.keep HM2.out.1 id).keep hk3 (by have := HM2.out.2.2.2.1; show ¬ OB = CB; omega)
  have HK3 : Hid (Keep (fun _ => False) w w3 ∧ RowK w3 CB M 7 (opc kd tx ky) ∧ CB < w3.heap.size ∧ w.heap.size ≤ CB ∧ OB < CB) := by
    obtain ⟨h1, h2, h3, h4, h5⟩ := HM2.out
    exact ⟨(HK1.out.trans h1 (fun _ q => q.elim)).trans hk3 (fun b q => .inr (by have : b = CB := q; omega)), hcr, Nat.lt_of_lt_of_le h3 hk3.size, h5, h4⟩
  clear hfz hcr hk3 HM2 HO1 HK1
  go_upto_region 6 with fail
  clear hcp
  have HC := fun (_ : Unit) => HH.out OB M oc kd tx ky w3 HO3.out
  go_upto_region 7 with (go_at_call 5; refine (HC ()).mono ?_; clear HC; rintro e w4 ⟨RB, rfl, hk4, hrb, Se, Rg, cs, o1, y1, a1, hres, hse, hrg⟩)
  have HL0 : Hid (LS1 w OB CB RB w4.heap.size (w4.heap.size + 1) (w4.heap.size + 1 + 1) M kd tx ky #[.int .i64 (cnt5 fun s => (endF kd tx M s).isSome : Nat), .int .i64 (cnt5 fun s => endF kd tx M s == some 99 : Nat), .int .i64 (cnt5 fun s => endF kd tx M s == some 97 : Nat), .int .i64 (cnt5 fun s => endF kd tx M s == some 0 : Nat), .bool Se, .bool false, .bool Rg, .bool cs, .bool false, .pointer none, .pointer none, o1, y1, a1] (fun _ => false) (fun _ => 0) (fun _ => 0) (((w4.alloc (.cells #[.bool false, .bool false, .bool false, .bool false, .bool false] 27)).alloc (.cells #[.int .u8 0, .int .u8 0, .int .u8 0, .int .u8 0, .int .u8 0] 29)).alloc (.cells #[.int .i64 0, .int .i64 0, .int .i64 0, .int .i64 0, .int .i64 0] 30))) := by
    obtain ⟨h1, h2, h3, h4, h5⟩ := HK3.out
    exact LS1.start (h1.trans hk4 (fun _ q => q.elim)) (HO3.out.keep hk4 id) (h2.keep (hk4.block CB h3 id)) (Nat.lt_of_lt_of_le h3 hk4.size) hres
  have HSE : Hid _ := hse
  have HRG : Hid _ := hrg
  clear hk4 hrb hres hse hrg HK3 HO3 HH
  go_upto_region 12 with fail
  generalize (((w4.alloc (.cells #[.bool false, .bool false, .bool false, .bool false, .bool false] 27)).alloc (.cells #[.int .u8 0, .int .u8 0, .int .u8 0, .int .u8 0, .int .u8 0] 29)).alloc (.cells #[.int .i64 0, .int .i64 0, .int .i64 0, .int .i64 0, .int .i64 0] 30)) = w5 at *
  obtain ⟨SB, hSB⟩ : ∃ SB, SB = w4.heap.size := ⟨_, rfl⟩
  obtain ⟨KB, hKB⟩ : ∃ KB, KB = w4.heap.size + 1 := ⟨_, rfl⟩
  obtain ⟨AB, hAB⟩ : ∃ AB, AB = w4.heap.size + 1 + 1 := ⟨_, rfl⟩
  rw [← hAB, ← hKB, ← hSB] at HL0 ⊢
  clear hSB hKB hAB
  obtain ⟨rc, hrc⟩ : ∃ rc : Array Value, rc = #[.int .i64 (cnt5 fun s => (endF kd tx M s).isSome : Nat), .int .i64 (cnt5 fun s => endF kd tx M s == some 99 : Nat), .int .i64 (cnt5 fun s => endF kd tx M s == some 97 : Nat), .int .i64 (cnt5 fun s => endF kd tx M s == some 0 : Nat), .bool Se, .bool false, .bool Rg, .bool cs, .bool false, .pointer none, .pointer none, o1, y1, a1] := ⟨_, rfl⟩
  rw [← hrc] at HL0
  have HRC : Hid _ := hrc
  clear hrc
  clear hgi HOB
  go_wp2
  go_loopg [9] 5 (fun gk s wr => ∃ t : Nat, t ≤ 5 ∧ s = .int .i64 (t : Int) ∧ gk = 5 - t ∧ Hid (LS1 w OB CB RB SB KB AB M kd tx ky rc (fun _ => false) (fun _ => 0) (fun s => if s < t then -1 else 0) wr))
  case atStart => exact ⟨0, by omega, rfl, rfl, HL0.out.congrA (fun t _ => by simp)⟩
  case round =>
    clear HL0
    obtain ⟨t, ht, rfl, rfl, HR⟩ := hrel
    obtain ⟨w6, rfl⟩ : ∃ w6, w6 = wr := ⟨_, rfl⟩
    by_cases hlt : t < 5
    · as_aux_lemma =>
      have i1 : (t : Int) < 5 := by omega
      have i2 : (t : Int).toNat = t := by omega
      have r1 := HR.out.ra.cell t hlt
      have r2 := HR.out.ra.free t
      have HF : Hid (LS1 w OB CB RB SB KB AB M kd tx ky rc (fun _ => false) (fun _ => 0) (fun s => if s < t + 1 then -1 else 0) (w6.setCell ⟨AB, t, none⟩ (.int .i64 (-1)))) := (HR.out.setA t hlt (-1)).congrA (fun s _ => by
        rw [put1_if]
        by_cases q : s = t
        · rw [if_pos q, if_pos (by omega)]
        · by_cases q2 : s < t
          · rw [if_neg q, if_pos q2, if_pos (by omega)]
          · rw [if_neg q, if_neg q2, if_neg (by omega)])
      clear HR
      go_wp2
      clear r1 r2
      generalize (w6.setCell ⟨AB, t, none⟩ (.int .i64 (-1))) = w7 at *
      go_roundg (5 - (t + 1))
      case measure => omega
      case rel => exact ⟨t + 1, by omega, by go_num, rfl, HF⟩
    · obtain rfl : t = 5 := by omega
      have HL1 : Hid (LS1 w OB CB RB SB KB AB M kd tx ky rc (seF tx 0) (ekF kd tx 0) (eaF kd tx 0) w6) := HR.out.congrA (fun s hs => by rw [if_pos hs]; rfl)
      clear HR
      go_upto_region 17 with fail
      go_loopg [58] M (fun gk s wr => ∃ i : Nat, i ≤ M ∧ s = .int .i64 (i : Int) ∧ gk = M - i ∧ Hid (LS1 w OB CB RB SB KB AB M kd tx ky rc (seF tx i) (ekF kd tx i) (eaF kd tx i) wr))
      case atStart => exact ⟨0, Nat.zero_le _, rfl, rfl, HL1⟩
      case round =>
        clear HL1 ht hlt
        obtain ⟨i, hi, rfl, rfl, HR⟩ := hrel
        obtain ⟨w7, rfl⟩ : ∃ w7, w7 = wr := ⟨_, rfl⟩
        by_cases hlt : i < M
        · as_aux_lemma =>
          -- BEGIN LOOP2
          have i1 : (i : Int) < (M : Int) := by omega
          have i2 : (i : Int).toNat = i := by omega
          obtain ⟨e0, e1, e2, e3, e4, e5, e6⟩ := HR.out.op.cell i hlt
          have htx := HR.out.op.ht i hlt
          have HA : Hid _ := HR.out.quiet (Keep.alloc (fun _ => False) w7 (.cells #[.int .u8 (kd i : Int), .int .u64 (tx i : Int), .string (kstr (ky i)), .string ⟨#[]⟩, .bool false, .int .u64 0, .slice none 0 0] 34))
          have HB : Hid _ := heap_alloc_new w7 (.cells #[.int .u8 (kd i : Int), .int .u64 (tx i : Int), .string (kstr (ky i)), .string ⟨#[]⟩, .bool false, .int .u64 0, .slice none 0 0] 34)
          have HZ : Hid (AB < w7.heap.size) := HR.out.lt
          clear HR
          go_upto_region 19 with fail
          clear e0 e1 e2 e3 e4 e5 e6
          generalize (w7.alloc (.cells #[.int .u8 (kd i : Int), .int .u64 (tx i : Int), .string (kstr (ky i)), .string ⟨#[]⟩, .bool false, .int .u64 0, .slice none 0 0] 34)) = w8 at *
          generalize w7.heap.size = bO at *
          obtain ⟨t, hxt⟩ : ∃ t, tx i = t + 1 := ⟨tx i - 1, by omega⟩
          have ht5 : t < 5 := by omega
          have e1 : w8.cell? ⟨bO, 1, none⟩ = some (.int .u64 ((t : Int) + 1)) := by have := cell_of _ bO 1 _ _ HB.out; rw [hxt] at this; exact this
          have t1 : (t : Int) < 5 := by omega
          have t2 : (t : Int).toNat = t := by omega
          have r1 := HA.out.rs.cell t ht5
          have r2 := HA.out.rs.free t
          have HXT : Hid _ := hxt
          clear hxt htx
          go_upto_region 21 with fail
          have HA2 : Hid _ := HA.out.setS t ht5
          have HB2 : Hid ((w8.setCell ⟨SB, t, none⟩ (.bool true)).heap[bO]? = _) := heap_other (.bool true) (by have := HA.out.ne; have := HZ.out; omega) HB.out
          clear r1 r2 HA HB e1
          generalize (w8.setCell ⟨SB, t, none⟩ (.bool true)) = w9 at *
          have e0 : w9.cell? ⟨bO, 0, none⟩ = some (.int .u8 (kd i : Int)) := cell_of _ _ 0 _ _ HB2.out
          have hse : put1 (seF tx i) t true = seF tx (i + 1) := by show _ = put1 (seF tx i) (tx i - 1) true; rw [HXT.out]; rfl
          rw [hse] at HA2
          by_cases hE : kd i = 99 ∨ kd i = 97
          · have HC := fun (_ : Unit) => isend_yes (kd i) w9 hE
            have r1 := HA2.out.rk.cell t ht5
            have r2 := HA2.out.rk.free t
            have HA3 := HA2.out.setK t ht5 (kd i)
            have r3 := HA3.ra.cell t ht5
            have r4 := HA3.ra.free t
            have HA4 := HA3.setA t ht5 (i : Int)
            have hek : put1 (ekF kd tx i) t (kd i) = ekF kd tx (i + 1) := by show _ = (if kd i = 99 ∨ kd i = 97 then put1 (ekF kd tx i) (tx i - 1) (kd i) else ekF kd tx i); rw [if_pos hE, HXT.out]; rfl
            have hea : put1 (eaF kd tx i) t (i : Int) = eaF kd tx (i + 1) := by show _ = (if kd i = 99 ∨ kd i = 97 then put1 (eaF kd tx i) (tx i - 1) (i : Int) else eaF kd tx i); rw [if_pos hE, HXT.out]; rfl
            rw [hek, hea] at HA4
            have HF : Hid _ := HA4
            have HE : Hid _ := hE
            clear HA2 HA3 HA4 hek hea hE hse HB2
            go_wp2_with (go_at_call 6; refine (HC ()).mono ?_; clear HC; rintro e w10 ⟨rfl, rfl⟩)
            clear r1 r2 r3 r4 e0
            generalize ((w9.setCell ⟨KB, t, none⟩ (.int .u8 (kd i : Int))).setCell ⟨AB, t, none⟩ (.int .i64 (i : Int))) = w11 at *
            go_roundg (M - (i + 1))
            case measure => omega
            case rel => exact ⟨i + 1, by omega, by go_num, rfl, HF⟩
          · have HC := fun (_ : Unit) => isend_no (kd i) w9 hE
            have hek : ekF kd tx i = ekF kd tx (i + 1) := by show _ = (if kd i = 99 ∨ kd i = 97 then put1 (ekF kd tx i) (tx i - 1) (kd i) else ekF kd tx i); rw [if_neg hE]
            have hea : eaF kd tx i = eaF kd tx (i + 1) := by show _ = (if kd i = 99 ∨ kd i = 97 then put1 (eaF kd tx i) (tx i - 1) (i : Int) else eaF kd tx i); rw [if_neg hE]
            rw [hek, hea] at HA2
            clear hek hea hE hse HB2
            go_wp2_with (go_at_call 6; refine (HC ()).mono ?_; clear HC; rintro e w10 ⟨rfl, rfl⟩)
            go_roundg (M - (i + 1))
            case measure => omega
            case rel => exact ⟨i + 1, by omega, by go_num, rfl, HA2⟩
          -- END LOOP2
        · obtain rfl : M = i := by omega
          have q2 : ¬ (M : Int) < (M : Int) := by omega
          have HL2 : Hid _ := HR
          clear HR
          go_upto_region 27 with fail
          go_loopg [13, 14, 15, 16, 17] 5 (fun gk s13 s14 s15 s16 s17 wr => ∃ t c1 c2 c3 c4 : Nat, t ≤ 5 ∧ s13 = .int .i64 (c1 : Int) ∧ s14 = .int .i64 (c2 : Int) ∧ s15 = .int .i64 (c3 : Int) ∧ s16 = .int .i64 (c4 : Int) ∧ s17 = .int .i64 (t : Int) ∧ gk = 5 - t ∧ Hid (c1 = cnF (fun t => seF tx M t) t ∧ c2 = cnF (fun t => seF tx M t && ekF kd tx M t == 99) t ∧ c3 = cnF (fun t => seF tx M t && ekF kd tx M t == 97) t ∧ c4 = cnF (fun t => seF tx M t && ekF kd tx M t == 0) t) ∧ Hid (LS1 w OB CB RB SB KB AB M kd tx ky rc (seF tx M) (ekF kd tx M) (eaF kd tx M) wr))
          case atStart => exact ⟨0, 0, 0, 0, 0, by omega, rfl, rfl, rfl, rfl, rfl, rfl, ⟨rfl, rfl, rfl, rfl⟩, HL2⟩
          case round =>
            clear HL2 hi hlt
            obtain ⟨t, c1, c2, c3, c4, ht, rfl, rfl, rfl, rfl, rfl, rfl, HCN, HR⟩ := hrel
            obtain ⟨w8, rfl⟩ : ∃ w8, w8 = wr := ⟨_, rfl⟩
            by_cases hlt : t < 5
            · as_aux_lemma =>
              -- BEGIN LOOP3
              have i1 : (t : Int) < 5 := by omega
              have i2 : (t : Int).toNat = t := by omega
              have r1 := HR.out.rs.cell t hlt
              have r2 := HR.out.rk.cell t hlt
              have b1 : (c1 : Int) ≤ 5 := by have := HCN.out.1; have := cnF_le (fun t => seF tx M t) t; omega
              have b2 : (c2 : Int) ≤ 5 := by have := HCN.out.2.1; have := cnF_le (fun t => seF tx M t && ekF kd tx M t == 99) t; omega
              have b3 : (c3 : Int) ≤ 5 := by have := HCN.out.2.2.1; have := cnF_le (fun t => seF tx M t && ekF kd tx M t == 97) t; omega
              have b4 : (c4 : Int) ≤ 5 := by have := HCN.out.2.2.2; have := cnF_le (fun t => seF tx M t && ekF kd tx M t == 0) t; omega
              cases hs : seF tx M t with
              | false =>
                have HF : Hid (c1 = cnF (fun t => seF tx M t) (t + 1) ∧ c2 = cnF (fun t => seF tx M t && ekF kd tx M t == 99) (t + 1) ∧ c3 = cnF (fun t => seF tx M t && ekF kd tx M t == 97) (t + 1) ∧ c4 = cnF (fun t => seF tx M t && ekF kd tx M t == 0) (t + 1)) := by
                  exact ⟨cnF_same HCN.out.1 (hs), cnF_same HCN.out.2.1 (by simp [hs]), cnF_same HCN.out.2.2.1 (by simp [hs]), cnF_same HCN.out.2.2.2 (by simp [hs])⟩
                rw [hs] at r1
                have HSS : Hid _ := hs
                clear hs HCN
                go_wp2
                go_roundg (5 - (t + 1))
                case measure => omega
                case rel => exact ⟨t + 1, c1, c2, c3, c4, by omega, rfl, rfl, rfl, rfl, by go_num, rfl, HF, HR⟩
              | true =>
                rw [hs] at r1
                rcases ekF_kind (kd := kd) (tx := tx) M t with hek | hek | hek
                · have HF : Hid (c1 + 1 = cnF (fun t => seF tx M t) (t + 1) ∧ c2 + 1 = cnF (fun t => seF tx M t && ekF kd tx M t == 99) (t + 1) ∧ c3 = cnF (fun t => seF tx M t && ekF kd tx M t == 97) (t + 1) ∧ c4 = cnF (fun t => seF tx M t && ekF kd tx M t == 0) (t + 1)) := by
                    exact ⟨cnF_up HCN.out.1 (hs), cnF_up HCN.out.2.1 (by simp [hs, hek]), cnF_same HCN.out.2.2.1 (by simp [hs, hek]), cnF_same HCN.out.2.2.2 (by simp [hs, hek])⟩
                  rw [hek] at r2
                  have HEK : Hid _ := hek
                  have HSS : Hid _ := hs
                  clear hek hs HCN
                  go_wp2
                  go_roundg (5 - (t + 1))
                  case measure => omega
                  case rel => exact ⟨t + 1, c1 + 1, c2 + 1, c3, c4, by omega, by go_num, by go_num, rfl, rfl, by go_num, rfl, HF, HR⟩
                · have HF : Hid (c1 + 1 = cnF (fun t => seF tx M t) (t + 1) ∧ c2 = cnF (fun t => seF tx M t && ekF kd tx M t == 99) (t + 1) ∧ c3 + 1 = cnF (fun t => seF tx M t && ekF kd tx M t == 97) (t + 1) ∧ c4 = cnF (fun t => seF tx M t && ekF kd tx M t == 0) (t + 1)) := by
                    exact ⟨cnF_up HCN.out.1 (hs), cnF_same HCN.out.2.1 (by simp [hs, hek]), cnF_up HCN.out.2.2.1 (by simp [hs, hek]), cnF_same HCN.out.2.2.2 (by simp [hs, hek])⟩
                  rw [hek] at r2
                  have HEK : Hid _ := hek
                  have HSS : Hid _ := hs
                  clear hek hs HCN
                  go_wp2
                  go_roundg (5 - (t + 1))
                  case measure => omega
                  case rel => exact ⟨t + 1, c1 + 1, c2, c3 + 1, c4, by omega, by go_num, rfl, by go_num, rfl, by go_num, rfl, HF, HR⟩
                · have HF : Hid (c1 + 1 = cnF (fun t => seF tx M t) (t + 1) ∧ c2 = cnF (fun t => seF tx M t && ekF kd tx M t == 99) (t + 1) ∧ c3 = cnF (fun t => seF tx M t && ekF kd tx M t == 97) (t + 1) ∧ c4 + 1 = cnF (fun t => seF tx M t && ekF kd tx M t == 0) (t + 1)) := by
                    exact ⟨cnF_up HCN.out.1 (hs), cnF_same HCN.out.2.1 (by simp [hs, hek]), cnF_same HCN.out.2.2.1 (by simp [hs, hek]), cnF_up HCN.out.2.2.2 (by simp [hs, hek])⟩
                  rw [hek] at r2
                  have HEK : Hid _ := hek
                  have HSS : Hid _ := hs
                  clear hek hs HCN
                  go_wp2
                  go_roundg (5 - (t + 1))
                  case measure => omega
                  case rel => exact ⟨t + 1, c1 + 1, c2, c3, c4 + 1, by omega, by go_num, rfl, rfl, by go_num, by go_num, rfl, HF, HR⟩
              -- END LOOP3
            · obtain rfl : t = 5 := by omega
              have HCN5 : Hid _ := HCN
              have HL3 : Hid _ := HR
              clear HR HCN
              go_upto_region 39 with fail
              go_loopg [18, 19] 5 (fun gk s18 s19 wr => ∃ (t : Nat) (sr : Bool), t ≤ 5 ∧ s18 = .bool sr ∧ s19 = .int .i64 (t : Int) ∧ gk = 5 - t ∧ Hid (sr = true ↔ SerL tx (ekF kd tx M) M t) ∧ Hid (LS1 w OB CB RB SB KB AB M kd tx ky rc (seF tx M) (ekF kd tx M) (eaF kd tx M) wr))
              case atStart => exact ⟨0, true, by omega, rfl, rfl, rfl, ⟨fun _ s hs => by omega, fun _ => rfl⟩, HL3⟩
              case round =>
                clear HL3 ht hlt
                obtain ⟨t, sr, ht, rfl, rfl, rfl, HSR, HR⟩ := hrel
                obtain ⟨w9, rfl⟩ : ∃ w9, w9 = wr := ⟨_, rfl⟩
                by_cases hlt : t < 5
                · as_aux_lemma =>
                  -- BEGIN LOOP4
                  have t1 : (t : Int) < 5 := by omega
                  have t2 : (t : Int).toNat = t := by omega
                  have r2 := HR.out.rk.cell t hlt
                  by_cases hek : ekF kd tx M t = 99
                  · rw [hek] at r2
                    have HEK : Hid _ := hek
                    clear hek
                    go_upto_region 44 with fail
                    clear r2
                    go_loopg [20, 21, 113] M (fun gk s20 s21 s wr => ∃ (i : Nat) (f l : Int), i ≤ M ∧ s20 = .int .i64 f ∧ s21 = .int .i64 l ∧ s = .int .i64 (i : Int) ∧ gk = M - i ∧ Hid (f = fsF tx t i ∧ l = laF tx t i) ∧ Hid (LS1 w OB CB RB SB KB AB M kd tx ky rc (seF tx M) (ekF kd tx M) (eaF kd tx M) wr))
                    case atStart => exact ⟨0, -1, -1, Nat.zero_le _, rfl, rfl, rfl, rfl, ⟨rfl, rfl⟩, HR⟩
                    case round =>
                      clear HR
                      obtain ⟨i, f, l, hi, rfl, rfl, rfl, rfl, HFL, HR⟩ := hrel
                      obtain ⟨wa, rfl⟩ : ∃ wa, wa = wr := ⟨_, rfl⟩
                      by_cases hlt2 : i < M
                      · as_aux_lemma =>
                        -- BEGIN LOOP5
                        have i1 : (i : Int) < (M : Int) := by omega
                        have i2 : (i : Int).toNat = i := by omega
                        obtain ⟨e0, e1, e2, e3, e4, e5, e6⟩ := HR.out.op.cell i hlt2
                        have htx := HR.out.op.ht i hlt2
                        have HA : Hid _ := HR.out.quiet (Keep.alloc (fun _ => False) wa (.cells #[.int .u8 (kd i : Int), .int .u64 (tx i : Int), .string (kstr (ky i)), .string ⟨#[]⟩, .bool false, .int .u64 0, .slice none 0 0] 34))
                        have HB : Hid _ := heap_alloc_new wa (.cells #[.int .u8 (kd i : Int), .int .u64 (tx i : Int), .string (kstr (ky i)), .string ⟨#[]⟩, .bool false, .int .u64 0, .slice none 0 0] 34)
                        clear HR
                        go_upto_region 46 with fail
                        clear e0 e1 e2 e3 e4 e5 e6
                        generalize (wa.alloc (.cells #[.int .u8 (kd i : Int), .int .u64 (tx i : Int), .string (kstr (ky i)), .string ⟨#[]⟩, .bool false, .int .u64 0, .slice none 0 0] 34)) = wb at *
                        generalize wa.heap.size = bO at *
                        obtain ⟨u, hxu⟩ : ∃ u, tx i = u + 1 := ⟨tx i - 1, by omega⟩
                        have hu5 : (u : Int) < 5 := by omega
                        have e1 : wb.cell? ⟨bO, 1, none⟩ = some (.int .u64 ((u : Int) + 1)) := by have := cell_of _ bO 1 _ _ HB.out; rw [hxu] at this; exact this
                        have HXU : Hid (tx i - 1 = u) := by show tx i - 1 = u; omega
                        clear hxu htx HB
                        by_cases hut : u = t
                        · subst hut
                          by_cases hf0 : f < 0
                          · have HF : Hid ((i : Int) = fsF tx u (i + 1) ∧ (i : Int) = laF tx u (i + 1)) := by
                              refine ⟨?_, ?_⟩
                              · unfold fsF; rw [if_pos ⟨HXU.out, by rw [← HFL.out.1]; exact hf0⟩]
                              · unfold laF; rw [if_pos HXU.out]
                            go_wp2
                            go_roundg (M - (i + 1))
                            case measure => omega
                            case rel => exact ⟨i + 1, _, _, by omega, rfl, rfl, by go_num, rfl, HF, HA⟩
                          · have HF : Hid (f = fsF tx u (i + 1) ∧ (i : Int) = laF tx u (i + 1)) := by
                              refine ⟨?_, ?_⟩
                              · unfold fsF; rw [if_neg (fun q => hf0 (by rw [HFL.out.1]; exact q.2))]; exact HFL.out.1
                              · unfold laF; rw [if_pos HXU.out]
                            go_wp2
                            go_roundg (M - (i + 1))
                            case measure => omega
                            case rel => exact ⟨i + 1, _, _, by omega, rfl, rfl, by go_num, rfl, HF, HA⟩
                        · have HF : Hid (f = fsF tx t (i + 1) ∧ l = laF tx t (i + 1)) := by
                            refine ⟨?_, ?_⟩
                            · unfold fsF; rw [if_neg (fun q => hut (by rw [← HXU.out]; exact q.1))]; exact HFL.out.1
                            · unfold laF; rw [if_neg (fun q => hut (by rw [← HXU.out]; exact q))]; exact HFL.out.2
                          have n1 : ((u : Int) == (t : Int)) = false := by simp; omega
                          have n2 : ¬ (u : Int) = (t : Int) := by omega
                          clear hut
                          go_wp2
                          go_roundg (M - (i + 1))
                          case measure => omega
                          case rel => exact ⟨i + 1, _, _, by omega, rfl, rfl, by go_num, rfl, HF, HA⟩
                        -- END LOOP5
                      · obtain rfl : M = i := by omega
                        have q5 : ¬ (M : Int) < (M : Int) := by omega
                        go_upto_region 52 with fail
                        have HFB : Hid (-1 ≤ f ∧ f < 2000 ∧ -1 ≤ l ∧ l < M ∧ (0 ≤ f → f ≤ l)) := by
                          rcases fsF_law tx t M with ⟨e, n⟩ | ⟨a, e, ha, ea, n⟩
                          · rcases laF_law tx t M with ⟨e', n'⟩ | ⟨c, e', hc, ec, n'⟩
                            · have h1 := HFL.out.1
                              have h2 := HFL.out.2
                              exact ⟨by omega, by omega, by omega, by omega, fun _ => by omega⟩
                            · exact absurd ec (n c hc)
                          · rcases laF_law tx t M with ⟨e', n'⟩ | ⟨c, e', hc, ec, n'⟩
                            · exact absurd ea (n' a ha)
                            · have : ¬ c < a := fun q => n' a q ha ea
                              have h1 := HFL.out.1
                              have h2 := HFL.out.2
                              exact ⟨by omega, by omega, by omega, by omega, fun _ => by omega⟩
                        have lb1 : l < 2000 := by have := HFB.out; omega
                        have lb2 : -1 ≤ l := HFB.out.2.2.1
                        have HS0 : Hid (sr = true ↔ SerM tx (ekF kd tx M) M t f f) := HSR.out.trans (serM_start f).symm
                        clear HSR
                        go_loopg [18, 24] ((l + 1 - f).toNat) (fun gk s18 s24 wr => ∃ (p : Int) (sq : Bool), s18 = .bool sq ∧ s24 = .int .i64 p ∧ gk = (l + 1 - p).toNat ∧ Hid (f ≤ p ∧ (0 ≤ f → p ≤ l + 1) ∧ p ≤ 2001) ∧ Hid (sq = true ↔ SerM tx (ekF kd tx M) M t f p) ∧ Hid (LS1 w OB CB RB SB KB AB M kd tx ky rc (seF tx M) (ekF kd tx M) (eaF kd tx M) wr))
                        case atStart => exact ⟨f, sr, rfl, rfl, rfl, ⟨Int.le_refl _, fun h => by have := HFB.out; omega, by have := HFB.out; omega⟩, HS0, HR⟩
                        case round =>
                          clear HR HS0
                          obtain ⟨p, sq, rfl, rfl, rfl, HPB, HSQ, HR⟩ := hrel
                          obtain ⟨wb, rfl⟩ : ∃ wb, wb = wr := ⟨_, rfl⟩
                          have pb1 : p ≤ 2001 := HPB.out.2.2
                          have pb2 : -1 ≤ p := by have := HFB.out.1; have := HPB.out.1; omega
                          by_cases hp : 0 ≤ p ∧ p ≤ l
                          · as_aux_lemma =>
                            -- BEGIN LOOP6
                            obtain ⟨q, rfl⟩ : ∃ q : Nat, p = (q : Int) := ⟨p.toNat, by omega⟩
                            have p1 : (q : Int) ≤ l := hp.2
                            have p2 : (q : Int) < (M : Int) := by have := HFB.out; omega
                            have p3 : (q : Int).toNat = q := by omega
                            have hqM : q < M := by omega
                            obtain ⟨_, e1, _⟩ := HR.out.op.cell q hqM
                            have htx := HR.out.op.ht q hqM
                            obtain ⟨u, hxu⟩ : ∃ u, tx q = u + 1 := ⟨tx q - 1, by omega⟩
                            have hu5 : u < 5 := by omega
                            have hu5' : (u : Int) < 5 := by omega
                            have hu6 : (u : Int).toNat = u := by omega
                            rw [show ((tx q : Nat) : Int) = (u : Int) + 1 by omega] at e1
                            have HXU : Hid (tx q - 1 = u) := by show tx q - 1 = u; omega
                            have HF0 : Hid (0 ≤ f) := by
                              show 0 ≤ f
                              rcases Int.lt_or_le f 0 with hf | hf
                              · exfalso
                                have e : l = -1 := by
                                  rcases fsF_law tx t M with ⟨e, n⟩ | ⟨a, e, ha, ea, n⟩
                                  · rcases laF_law tx t M with ⟨e', n'⟩ | ⟨c, e', hc, ec, n'⟩
                                    · rw [HFL.out.2]; exact e'
                                    · exact absurd ec (n c hc)
                                  · have := HFL.out.1; omega
                                omega
                              · exact hf
                            have HB2 : Hid (f ≤ (q : Int) + 1 ∧ (0 ≤ f → (q : Int) + 1 ≤ l + 1) ∧ (q : Int) + 1 ≤ 2001) := ⟨by have := HPB.out.1; omega, fun _ => by omega, by omega⟩
                            have r2 := HR.out.rk.cell u hu5
                            clear hxu htx hp
                            by_cases hut : u = t
                            · subst hut
                              have HF : Hid (sq = true ↔ SerM tx (ekF kd tx M) M u f ((q : Int) + 1)) := HSQ.out.trans (serM_ok (.inl HXU.out)).symm
                              go_wp2
                              go_roundg ((l + 1 - ((q : Int) + 1)).toNat)
                              case measure => omega
                              case rel => exact ⟨(q : Int) + 1, sq, rfl, rfl, rfl, HB2, HF, HR⟩
                            · have n1 : ((u : Int) == (t : Int)) = false := by simp; omega
                              have n2 : ¬ (u : Int) = (t : Int) := by omega
                              have HUT : Hid _ := hut
                              clear hut
                              by_cases hk9 : ekF kd tx M u = 99
                              · have HF : Hid (false = true ↔ SerM tx (ekF kd tx M) M t f ((q : Int) + 1)) := ⟨fun h => by simp at h, fun h => absurd h (serM_bad HF0.out HPB.out.1 (by rw [HXU.out]; exact HUT.out) (by rw [HXU.out]; exact hk9))⟩
                                rw [hk9] at r2
                                clear hk9
                                go_wp2
                                go_roundg ((l + 1 - ((q : Int) + 1)).toNat)
                                case measure => omega
                                case rel => exact ⟨(q : Int) + 1, false, rfl, rfl, rfl, HB2, HF, HR⟩
                              · have HF : Hid (sq = true ↔ SerM tx (ekF kd tx M) M t f ((q : Int) + 1)) := HSQ.out.trans (serM_ok (.inr (by rw [HXU.out]; exact hk9))).symm
                                have n3 : (((ekF kd tx M u : Nat) : Int) == 99) = false := by simp; omega
                                have n4 : ¬ ((ekF kd tx M u : Nat) : Int) = 99 := by omega
                                clear hk9
                                generalize ekF kd tx M u = kk at *
                                go_wp2
                                go_roundg ((l + 1 - ((q : Int) + 1)).toNat)
                                case measure => omega
                                case rel => exact ⟨(q : Int) + 1, sq, rfl, rfl, rfl, HB2, HF, HR⟩
                            -- END LOOP6
                          · have HF : Hid (sq = true ↔ SerL tx (ekF kd tx M) M (t + 1)) := HSQ.out.trans (serM_end HEK.out HFL.out.1 HFL.out.2 (by omega) HPB.out.1 HPB.out.2.1)
                            clear HSQ
                            by_cases hp0 : 0 ≤ p
                            · have hp1 : ¬ p ≤ l := by omega
                              clear hp
                              go_wp2
                              go_roundg (5 - (t + 1))
                              case measure => omega
                              case rel => exact ⟨t + 1, sq, by omega, rfl, by go_num, rfl, HF, HR⟩
                            · clear hp
                              go_wp2
                              go_roundg (5 - (t + 1))
                              case measure => omega
                              case rel => exact ⟨t + 1, sq, by omega, rfl, by go_num, rfl, HF, HR⟩
                  · have HF : Hid (sr = true ↔ SerL tx (ekF kd tx M) M (t + 1)) := HSR.out.trans (serL_skip hek).symm
                    have n3 : (((ekF kd tx M t : Nat) : Int) == 99) = false := by simp; omega
                    have n4 : ¬ ((ekF kd tx M t : Nat) : Int) = 99 := by omega
                    clear hek HSR
                    go_wp2
                    go_roundg (5 - (t + 1))
                    case measure => omega
                    case rel => exact ⟨t + 1, sr, by omega, rfl, by go_num, rfl, HF, HR⟩
                  -- END LOOP4
                · obtain rfl : t = 5 := by omega
                  have HSR5 : Hid _ := HSR
                  have HL4 : Hid _ := HR
                  clear HR HSR
                  go_upto_region 59 with fail
                  go_loopg [26, 157] M (fun gk s26 s wr => ∃ (j : Nat) (rg : Bool), j ≤ M ∧ s26 = .bool rg ∧ s = .int .i64 (j : Int) ∧ gk = M - j ∧ Hid (rg = true ↔ RigL (PairL kd tx ky (eaF kd tx M)) j) ∧ Hid (LS1 w OB CB RB SB KB AB M kd tx ky rc (seF tx M) (ekF kd tx M) (eaF kd tx M) wr))
                  case atStart => exact ⟨0, true, Nat.zero_le _, rfl, rfl, rfl, ⟨fun _ j hj => by omega, fun _ => rfl⟩, HL4⟩
                  case round =>
                    clear HL4 ht hlt
                    obtain ⟨j, rg, hj, rfl, rfl, rfl, HRJ, HR⟩ := hrel
                    obtain ⟨wa, rfl⟩ : ∃ wa, wa = wr := ⟨_, rfl⟩
                    by_cases hlt : j < M
                    · as_aux_lemma =>
                      -- BEGIN LOOP7
                      have j1 : (j : Int) < (M : Int) := by omega
                      have j2 : (j : Int).toNat = j := by omega
                      obtain ⟨e0, e1, e2, e3, e4, e5, e6⟩ := HR.out.op.cell j hlt
                      have HJ : Hid (LS1 w OB CB RB SB KB AB M kd tx ky rc (seF tx M) (ekF kd tx M) (eaF kd tx M) (wa.alloc (.cells #[.int .u8 (kd j : Int), .int .u64 (tx j : Int), .string (kstr (ky j)), .string ⟨#[]⟩, .bool false, .int .u64 0, .slice none 0 0] 34)) ∧ (wa.alloc (.cells #[.int .u8 (kd j : Int), .int .u64 (tx j : Int), .string (kstr (ky j)), .string ⟨#[]⟩, .bool false, .int .u64 0, .slice none 0 0] 34)).heap[wa.heap.size]? = some (.cells #[.int .u8 (kd j : Int), .int .u64 (tx j : Int), .string (kstr (ky j)), .string ⟨#[]⟩, .bool false, .int .u64 0, .slice none 0 0] 34)) := ⟨HR.out.quiet (Keep.alloc (fun _ => False) wa (.cells #[.int .u8 (kd j : Int), .int .u64 (tx j : Int), .string (kstr (ky j)), .string ⟨#[]⟩, .bool false, .int .u64 0, .slice none 0 0] 34)), heap_alloc_new wa (.cells #[.int .u8 (kd j : Int), .int .u64 (tx j : Int), .string (kstr (ky j)), .string ⟨#[]⟩, .bool false, .int .u64 0, .slice none 0 0] 34)⟩
                      clear HR
                      go_upto_region 61 with fail
                      clear e0 e1 e2 e3 e4 e5 e6
                      generalize (wa.alloc (.cells #[.int .u8 (kd j : Int), .int .u64 (tx j : Int), .string (kstr (ky j)), .string ⟨#[]⟩, .bool false, .int .u64 0, .slice none 0 0] 34)) = wj at *
                      generalize wa.heap.size = bJ at *
                      have e0 : wj.cell? ⟨bJ, 0, none⟩ = some (.int .u8 (kd j : Int)) := cell_of _ _ 0 _ _ HJ.out.2
                      by_cases hEj : kd j = 99 ∨ kd j = 97
                      · have HC := fun (_ : Unit) => isend_yes (kd j) wj hEj
                        have HF : Hid (rg = true ↔ RigL (PairL kd tx ky (eaF kd tx M)) (j + 1)) := HRJ.out.trans (rigL_skip (fun i q => by have h := q.1; unfold Acc at h; omega)).symm
                        clear hEj HRJ
                        go_wp2_with (go_at_call 6; refine (HC ()).mono ?_; clear HC; rintro e wz ⟨rfl, rfl⟩)
                        go_roundg (M - (j + 1))
                        case measure => omega
                        case rel => exact ⟨j + 1, rg, by omega, rfl, by go_num, rfl, HF, HJ.out.1⟩
                      · have HC := fun (_ : Unit) => isend_no (kd j) wj hEj
                        have HEJ : Hid _ := hEj
                        clear hEj
                        go_upto_region 63 with (go_at_call 6; refine (HC ()).mono ?_; clear HC; rintro e wz ⟨rfl, rfl⟩)
                        clear e0
                        have HK0 : Hid (rg = true ↔ RigK (PairL kd tx ky (eaF kd tx M)) j 0) := HRJ.out.trans rigK_start.symm
                        clear HRJ
                        go_loopg [26, 29] j (fun gk s26 s29 wr => ∃ (i : Nat) (rq : Bool), i ≤ j ∧ s26 = .bool rq ∧ s29 = .int .i64 (i : Int) ∧ gk = j - i ∧ Hid (rq = true ↔ RigK (PairL kd tx ky (eaF kd tx M)) j i) ∧ Hid (LS1 w OB CB RB SB KB AB M kd tx ky rc (seF tx M) (ekF kd tx M) (eaF kd tx M) wr ∧ wr.heap[bJ]? = some (.cells #[.int .u8 (kd j : Int), .int .u64 (tx j : Int), .string (kstr (ky j)), .string ⟨#[]⟩, .bool false, .int .u64 0, .slice none 0 0] 34)))
                        case atStart => exact ⟨0, rg, Nat.zero_le _, rfl, rfl, rfl, HK0, HJ⟩
                        case round =>
                          clear HJ HK0
                          obtain ⟨i, rq, hi, rfl, rfl, rfl, HRQ, HR⟩ := hrel
                          obtain ⟨wb, rfl⟩ : ∃ wb, wb = wr := ⟨_, rfl⟩
                          by_cases hlt2 : i < j
                          · as_aux_lemma =>
                            -- BEGIN LOOP8
                            have i1 : (i : Int) < (j : Int) := by omega
                            have i2 : (i : Int) < (M : Int) := by omega
                            have i3 : (i : Int).toNat = i := by omega
                            obtain ⟨e0, e1, e2, e3, e4, e5, e6⟩ := HR.out.1.op.cell i (by omega)
                            have htx := HR.out.1.op.ht i (by omega)
                            have hkI := HR.out.1.op.hk i (by omega)
                            have hkJ := HR.out.1.op.hk j hlt
                            have HA : Hid (LS1 w OB CB RB SB KB AB M kd tx ky rc (seF tx M) (ekF kd tx M) (eaF kd tx M) (wb.alloc (.cells #[.int .u8 (kd i : Int), .int .u64 (tx i : Int), .string (kstr (ky i)), .string ⟨#[]⟩, .bool false, .int .u64 0, .slice none 0 0] 34)) ∧ (wb.alloc (.cells #[.int .u8 (kd i : Int), .int .u64 (tx i : Int), .string (kstr (ky i)), .string ⟨#[]⟩, .bool false, .int .u64 0, .slice none 0 0] 34)).heap[bJ]? = some (.cells #[.int .u8 (kd j : Int), .int .u64 (tx j : Int), .string (kstr (ky j)), .string ⟨#[]⟩, .bool false, .int .u64 0, .slice none 0 0] 34)) := ⟨HR.out.1.quiet (Keep.alloc (fun _ => False) wb (.cells #[.int .u8 (kd i : Int), .int .u64 (tx i : Int), .string (kstr (ky i)), .string ⟨#[]⟩, .bool false, .int .u64 0, .slice none 0 0] 34)), heap_grow _ HR.out.2⟩
                            have HB : Hid _ := heap_alloc_new wb (.cells #[.int .u8 (kd i : Int), .int .u64 (tx i : Int), .string (kstr (ky i)), .string ⟨#[]⟩, .bool false, .int .u64 0, .slice none 0 0] 34)
                            clear HR
                            go_upto_region 66 with fail
                            clear e0 e1 e2 e3 e4 e5 e6
                            generalize (wb.alloc (.cells #[.int .u8 (kd i : Int), .int .u64 (tx i : Int), .string (kstr (ky i)), .string ⟨#[]⟩, .bool false, .int .u64 0, .slice none 0 0] 34)) = wc at *
                            generalize wb.heap.size = bI at *
                            have a0 : wc.cell? ⟨bI, 0, none⟩ = some (.int .u8 (kd i : Int)) := cell_of _ _ 0 _ _ HB.out
                            have a1 : wc.cell? ⟨bI, 1, none⟩ = some (.int .u64 (tx i : Int)) := cell_of _ _ 1 _ _ HB.out
                            have a2 : wc.cell? ⟨bI, 2, none⟩ = some (.string (kstr (ky i))) := cell_of _ _ 2 _ _ HB.out
                            have b0 : wc.cell? ⟨bJ, 0, none⟩ = some (.int .u8 (kd j : Int)) := cell_of _ _ 0 _ _ HA.out.2
                            have b1 : wc.cell? ⟨bJ, 1, none⟩ = some (.int .u64 (tx j : Int)) := cell_of _ _ 1 _ _ HA.out.2
                            have b2 : wc.cell? ⟨bJ, 2, none⟩ = some (.string (kstr (ky j))) := cell_of _ _ 2 _ _ HA.out.2
                            clear HB
                            by_cases hEi : kd i = 99 ∨ kd i = 97
                            · have HC := fun (_ : Unit) => isend_yes (kd i) wc hEi
                              have HF : Hid (rq = true ↔ RigK (PairL kd tx ky (eaF kd tx M)) j (i + 1)) := HRQ.out.trans (rigK_ok (fun q => by have h := q.2.1; unfold Acc at h; omega)).symm
                              clear hEi hkI hkJ HRQ
                              go_wp2_with (go_at_call 6; refine (HC ()).mono ?_; clear HC; rintro e wz ⟨rfl, rfl⟩)
                              go_roundg (j - (i + 1))
                              case measure => omega
                              case rel => exact ⟨i + 1, rq, by omega, rfl, by go_num, rfl, HF, HA⟩
                            · have HC := fun (_ : Unit) => isend_no (kd i) wc hEi
                              have HEI : Hid _ := hEi
                              have HKI : Hid _ := hkI
                              have HKJ : Hid _ := hkJ
                              clear hEi hkI hkJ
                              by_cases hxx : tx i = tx j
                              · have HF : Hid (rq = true ↔ RigK (PairL kd tx ky (eaF kd tx M)) j (i + 1)) := HRQ.out.trans (rigK_ok (fun q => q.2.2.1 hxx)).symm
                                rw [hxx] at a1
                                clear hxx HRQ
                                go_wp2_with (go_at_call 6; refine (HC ()).mono ?_; clear HC; rintro e wz ⟨rfl, rfl⟩)
                                go_roundg (j - (i + 1))
                                case measure => omega
                                case rel => exact ⟨i + 1, rq, by omega, rfl, by go_num, rfl, HF, HA⟩
                              · have n1 : ((tx i : Int) == (tx j : Int)) = false := by simp; omega
                                have n2 : ¬ (tx i : Int) = (tx j : Int) := by omega
                                have HXX : Hid _ := hxx
                                clear hxx
                                by_cases hkk : ky i = ky j
                                · rw [hkk] at a2
                                  have HKK : Hid _ := hkk
                                  clear hkk
                                  obtain ⟨u, hxu⟩ : ∃ u, tx i = u + 1 := ⟨tx i - 1, by omega⟩
                                  have hu5 : u < 5 := by omega
                                  have hu5' : (u : Int) < 5 := by omega
                                  have hu6 : (u : Int).toNat = u := by omega
                                  have HXU : Hid (tx i - 1 = u) := by show tx i - 1 = u; omega
                                  rw [show ((tx i : Nat) : Int) = (u : Int) + 1 by omega] at a1 n1 n2
                                  have r3 := HA.out.1.ra.cell u hu5
                                  obtain ⟨ea, hea⟩ : ∃ ea, ea = eaF kd tx M u := ⟨_, rfl⟩
                                  have hrg := eaF_rng (kd := kd) (tx := tx) M u
                                  rw [← hea] at r3 hrg
                                  have ea1 : -1 ≤ ea := hrg.1
                                  have ea2 : ea < 2000 := by omega
                                  have HPR : Hid ((ea < 0 ∨ (j : Int) < ea) → kd i = 119 ∨ kd j = 119 → PairL kd tx ky (eaF kd tx M) i j) := fun h hw => ⟨by have h1 := HKJ.out; have h2 : ¬ (kd j = 99 ∨ kd j = 97) := HEJ.out; unfold Acc; omega, by have h1 := HKI.out; have h2 : ¬ (kd i = 99 ∨ kd i = 97) := HEI.out; unfold Acc; omega, HXX.out, HKK.out, hw, by rw [HXU.out, ← hea]; omega⟩
                                  have HPQ : Hid (PairL kd tx ky (eaF kd tx M) i j → ea < 0 ∨ (j : Int) < ea) := fun q => by have := q.2.2.2.2.2; rw [HXU.out, ← hea] at this; omega
                                  clear hea hrg hxu htx
                                  by_cases hwi : kd i = 119
                                  · have HPR : Hid ((ea < 0 ∨ (j : Int) < ea) → PairL kd tx ky (eaF kd tx M) i j) := fun h => HPR.out h (.inl hwi)
                                    rw [hwi] at a0 HC
                                    have HWI : Hid _ := hwi
                                    clear hwi
                                    by_cases he0 : ea < 0
                                    · have HF : Hid (false = true ↔ RigK (PairL kd tx ky (eaF kd tx M)) j (i + 1)) := ⟨fun h => by simp at h, fun h => absurd h (rigK_bad (HPR.out (.inl he0)))⟩
                                      clear HPR HRQ
                                      go_wp2_with (go_at_call 6; refine (HC ()).mono ?_; clear HC; rintro e wz ⟨rfl, rfl⟩)
                                      go_roundg (j - (i + 1))
                                      case measure => omega
                                      case rel => exact ⟨i + 1, false, by omega, rfl, by go_num, rfl, HF, HA⟩
                                    · by_cases hej : (j : Int) < ea
                                      · have HF : Hid (false = true ↔ RigK (PairL kd tx ky (eaF kd tx M)) j (i + 1)) := ⟨fun h => by simp at h, fun h => absurd h (rigK_bad (HPR.out (.inr hej)))⟩
                                        clear HPR HRQ
                                        go_wp2_with (go_at_call 6; refine (HC ()).mono ?_; clear HC; rintro e wz ⟨rfl, rfl⟩)
                                        go_roundg (j - (i + 1))
                                        case measure => omega
                                        case rel => exact ⟨i + 1, false, by omega, rfl, by go_num, rfl, HF, HA⟩
                                      · have HF : Hid (rq = true ↔ RigK (PairL kd tx ky (eaF kd tx M)) j (i + 1)) := HRQ.out.trans (rigK_ok (fun q => by have := HPQ.out q; omega)).symm
                                        clear HPR HRQ HPQ
                                        go_wp2_with (go_at_call 6; refine (HC ()).mono ?_; clear HC; rintro e wz ⟨rfl, rfl⟩)
                                        go_roundg (j - (i + 1))
                                        case measure => omega
                                        case rel => exact ⟨i + 1, rq, by omega, rfl, by go_num, rfl, HF, HA⟩
                                  · have n3 : ((kd i : Int) == 119) = false := by simp; omega
                                    have n4 : ¬ (kd i : Int) = 119 := by omega
                                    have n3' : ((kd i : Int) != 119) = true := by rw [bne, n3]; rfl
                                    by_cases hwj : kd j = 119
                                    · have HPR : Hid ((ea < 0 ∨ (j : Int) < ea) → PairL kd tx ky (eaF kd tx M) i j) := fun h => HPR.out h (.inr hwj)
                                      rw [hwj] at b0
                                      have HWJ : Hid _ := hwj
                                      clear hwj hwi
                                      by_cases he0 : ea < 0
                                      · have HF : Hid (false = true ↔ RigK (PairL kd tx ky (eaF kd tx M)) j (i + 1)) := ⟨fun h => by simp at h, fun h => absurd h (rigK_bad (HPR.out (.inl he0)))⟩
                                        clear HPR HRQ
                                        go_wp2_with (go_at_call 6; refine (HC ()).mono ?_; clear HC; rintro e wz ⟨rfl, rfl⟩)
                                        go_roundg (j - (i + 1))
                                        case measure => omega
                                        case rel => exact ⟨i + 1, false, by omega, rfl, by go_num, rfl, HF, HA⟩
                                      · by_cases hej : (j : Int) < ea
                                        · have HF : Hid (false = true ↔ RigK (PairL kd tx ky (eaF kd tx M)) j (i + 1)) := ⟨fun h => by simp at h, fun h => absurd h (rigK_bad (HPR.out (.inr hej)))⟩
                                          clear HPR HRQ
                                          go_wp2_with (go_at_call 6; refine (HC ()).mono ?_; clear HC; rintro e wz ⟨rfl, rfl⟩)
                                          go_roundg (j - (i + 1))
                                          case measure => omega
                                          case rel => exact ⟨i + 1, false, by omega, rfl, by go_num, rfl, HF, HA⟩
                                        · have HF : Hid (rq = true ↔ RigK (PairL kd tx ky (eaF kd tx M)) j (i + 1)) := HRQ.out.trans (rigK_ok (fun q => by have := HPQ.out q; omega)).symm
                                          clear HPR HRQ HPQ
                                          go_wp2_with (go_at_call 6; refine (HC ()).mono ?_; clear HC; rintro e wz ⟨rfl, rfl⟩)
                                          go_roundg (j - (i + 1))
                                          case measure => omega
                                          case rel => exact ⟨i + 1, rq, by omega, rfl, by go_num, rfl, HF, HA⟩
                                    · have n5 : ((kd j : Int) == 119) = false := by simp; omega
                                      have n6 : ¬ (kd j : Int) = 119 := by omega
                                      have n5' : ((kd j : Int) != 119) = true := by rw [bne, n5]; rfl
                                      have HF : Hid (rq = true ↔ RigK (PairL kd tx ky (eaF kd tx M)) j (i + 1)) := HRQ.out.trans (rigK_ok (fun q => by have := q.2.2.2.2.1; omega)).symm
                                      clear hwj hwi HRQ HPR HPQ
                                      go_wp2_with (go_at_call 6; refine (HC ()).mono ?_; clear HC; rintro e wz ⟨rfl, rfl⟩)
                                      go_roundg (j - (i + 1))
                                      case measure => omega
                                      case rel => exact ⟨i + 1, rq, by omega, rfl, by go_num, rfl, HF, HA⟩
                                · have HF : Hid (rq = true ↔ RigK (PairL kd tx ky (eaF kd tx M)) j (i + 1)) := HRQ.out.trans (rigK_ok (fun q => hkk q.2.2.2.1)).symm
                                  have n4 : ((kstr (ky i)).toList == (kstr (ky j)).toList) = false := kstr_tl (by have := HKI.out; omega) (by have := HKJ.out; omega) hkk
                                  clear hkk HRQ
                                  go_wp2_with (go_at_call 6; refine (HC ()).mono ?_; clear HC; rintro e wz ⟨rfl, rfl⟩)
                                  go_roundg (j - (i + 1))
                                  case measure => omega
                                  case rel => exact ⟨i + 1, rq, by omega, rfl, by go_num, rfl, HF, HA⟩
                            -- END LOOP8
                          · obtain rfl : i = j := by omega
                            have q8 : ¬ (i : Int) < (i : Int) := by omega
                            have HF : Hid (rq = true ↔ RigL (PairL kd tx ky (eaF kd tx M)) (i + 1)) := HRQ.out.trans rigK_end
                            clear HRQ
                            go_wp2
                            go_roundg (M - (i + 1))
                            case measure => omega
                            case rel => exact ⟨i + 1, rq, by omega, rfl, by go_num, rfl, HF, HR.out.1⟩
                      -- END LOOP7
                    · obtain rfl : M = j := by omega
                      have q7 : ¬ (M : Int) < (M : Int) := by omega
                      have HRG7 : Hid _ := HRJ
                      have HL7 : Hid _ := HR
                      clear HR HRJ
                      go_upto_region 72 with fail
                      have HRES : Hid (wa.heap[RB]? = some (.cells #[.int .i64 (c1 : Int), .int .i64 (c2 : Int), .int .i64 (c3 : Int), .int .i64 (c4 : Int), .bool sr, .bool false, .bool rg, .bool cs, .bool false, .pointer none, .pointer none, o1, y1, a1] 41)) := by
                        have h1 : ∀ j, j < M → 1 ≤ tx j := fun j hj => (HL7.out.op.ht j hj).1
                        have e1 : cnt5 (fun s => (endF kd tx M s).isSome) = c1 := (cn_all h1).symm.trans HCN5.out.1.symm
                        have e2 : cnt5 (fun s => endF kd tx M s == some 99) = c2 := (cn_some h1 99).symm.trans HCN5.out.2.1.symm
                        have e3 : cnt5 (fun s => endF kd tx M s == some 97) = c3 := (cn_some h1 97).symm.trans HCN5.out.2.2.1.symm
                        have e4 : cnt5 (fun s => endF kd tx M s == some 0) = c4 := (cn_some h1 0).symm.trans HCN5.out.2.2.2.symm
                        have e5 : Se = sr := Bool.eq_iff_iff.2 (HSE.out.trans ((ser_law HL7.out.op.ht).symm.trans HSR5.out.symm))
                        have e6 : Rg = rg := Bool.eq_iff_iff.2 (HRG.out.trans ((rig_law HWF.out h1).symm.trans HRG7.out.symm))
                        have h := HL7.out.res
                        rw [HRC.out, e1, e2, e3, e4, e5, e6] at h
                        exact h
                      have r0 : wa.cell? ⟨RB, 0, none⟩ = some (.int .i64 (c1 : Int)) := cell_of _ _ 0 _ _ HRES.out
                      have r1 : wa.cell? ⟨RB, 1, none⟩ = some (.int .i64 (c2 : Int)) := cell_of _ _ 1 _ _ HRES.out
                      have r2 : wa.cell? ⟨RB, 2, none⟩ = some (.int .i64 (c3 : Int)) := cell_of _ _ 2 _ _ HRES.out
                      have r3 : wa.cell? ⟨RB, 3, none⟩ = some (.int .i64 (c4 : Int)) := cell_of _ _ 3 _ _ HRES.out
                      have r4 : wa.cell? ⟨RB, 4, none⟩ = some (.bool sr) := cell_of _ _ 4 _ _ HRES.out
                      have r5 : wa.cell? ⟨RB, 5, none⟩ = some (.bool false) := cell_of _ _ 5 _ _ HRES.out
                      have r6 : wa.cell? ⟨RB, 6, none⟩ = some (.bool rg) := cell_of _ _ 6 _ _ HRES.out
                      have r9 : wa.cell? ⟨RB, 9, none⟩ = some (.pointer none) := cell_of _ _ 9 _ _ HRES.out
                      clear HRES HSE HRG HWF HRC HCN5 HSR5 HRG7
                      go_upto_region 79 with fail
                      clear r0 r1 r2 r3 r4 r5 r6 r9
                      go_loopg [277] M (fun gk s wr => ∃ i : Nat, i ≤ M ∧ s = .int .i64 (i : Int) ∧ gk = M - i ∧ Hid (LS1 w OB CB RB SB KB AB M kd tx ky rc (seF tx M) (ekF kd tx M) (eaF kd tx M) wr))
                      case atStart => exact ⟨0, Nat.zero_le _, rfl, rfl, HL7⟩
                      case round =>
                        clear HL7 hj hlt
                        obtain ⟨i, hi, rfl, rfl, HR⟩ := hrel
                        obtain ⟨wb, rfl⟩ : ∃ wb, wb = wr := ⟨_, rfl⟩
                        by_cases hlt : i < M
                        · as_aux_lemma =>
                          have i1 : (i : Int) < (M : Int) := by omega
                          have i2 : (i : Int).toNat = i := by omega
                          obtain ⟨e0, e1, e2, e3, e4, e5, e6⟩ := HR.out.op.cell i hlt
                          obtain ⟨d0, d1, d2, d3, d4, d5, d6⟩ := HR.out.cells i hlt
                          go_upto_region 81 with fail
                          go_cut [33, 34] from 280 to 287 (fun s33 s34 wx => ∃ A B : Nat, s33 = .pointer (some ⟨A, 0, none⟩) ∧ s34 = .pointer (some ⟨B, 0, none⟩) ∧ Hid (LS1 w OB CB RB SB KB AB M kd tx ky rc (seF tx M) (ekF kd tx M) (eaF kd tx M) wx ∧ wx.heap[A]? = some (.cells #[.int .u8 (kd i : Int), .int .u64 (tx i : Int), .string (kstr (ky i)), .string ⟨#[]⟩, .bool false, .int .u64 0, .slice none 0 0] 34) ∧ wx.heap[B]? = some (.cells #[.int .u8 (kd i : Int), .int .u64 (tx i : Int), .string (kstr (ky i)), .string ⟨#[]⟩, .bool false, .int .u64 0, .slice none 0 0] 34)))
                          case first =>
                            have hOB : OB < wb.heap.size := HR.out.op.lt
                            have hCB : CB < wb.heap.size := HR.out.cl
                            have HF : Hid (LS1 w OB CB RB SB KB AB M kd tx ky rc (seF tx M) (ekF kd tx M) (eaF kd tx M) ((wb.alloc (.cells #[.int .u8 (kd i : Int), .int .u64 (tx i : Int), .string (kstr (ky i)), .string ⟨#[]⟩, .bool false, .int .u64 0, .slice none 0 0] 34)).alloc (.cells #[.int .u8 (kd i : Int), .int .u64 (tx i : Int), .string (kstr (ky i)), .string ⟨#[]⟩, .bool false, .int .u64 0, .slice none 0 0] 34)).drew ∧ ((wb.alloc (.cells #[.int .u8 (kd i : Int), .int .u64 (tx i : Int), .string (kstr (ky i)), .string ⟨#[]⟩, .bool false, .int .u64 0, .slice none 0 0] 34)).alloc (.cells #[.int .u8 (kd i : Int), .int .u64 (tx i : Int), .string (kstr (ky i)), .string ⟨#[]⟩, .bool false, .int .u64 0, .slice none 0 0] 34)).drew.heap[wb.heap.size]? = some (.cells #[.int .u8 (kd i : Int), .int .u64 (tx i : Int), .string (kstr (ky i)), .string ⟨#[]⟩, .bool false, .int .u64 0, .slice none 0 0] 34) ∧ ((wb.alloc (.cells #[.int .u8 (kd i : Int), .int .u64 (tx i : Int), .string (kstr (ky i)), .string ⟨#[]⟩, .bool false, .int .u64 0, .slice none 0 0] 34)).alloc (.cells #[.int .u8 (kd i : Int), .int .u64 (tx i : Int), .string (kstr (ky i)), .string ⟨#[]⟩, .bool false, .int .u64 0, .slice none 0 0] 34)).drew.heap[wb.heap.size + 1]? = some (.cells #[.int .u8 (kd i : Int), .int .u64 (tx i : Int), .string (kstr (ky i)), .string ⟨#[]⟩, .bool false, .int .u64 0, .slice none 0 0] 34)) := by
                              have k1 := Keep.alloc (fun _ => False) wb (.cells #[.int .u8 (kd i : Int), .int .u64 (tx i : Int), .string (kstr (ky i)), .string ⟨#[]⟩, .bool false, .int .u64 0, .slice none 0 0] 34)
                              have k2 := Keep.alloc (fun _ => False) (wb.alloc (.cells #[.int .u8 (kd i : Int), .int .u64 (tx i : Int), .string (kstr (ky i)), .string ⟨#[]⟩, .bool false, .int .u64 0, .slice none 0 0] 34)) (.cells #[.int .u8 (kd i : Int), .int .u64 (tx i : Int), .string (kstr (ky i)), .string ⟨#[]⟩, .bool false, .int .u64 0, .slice none 0 0] 34)
                              have kk : Keep (fun _ => False) wb ((wb.alloc (.cells #[.int .u8 (kd i : Int), .int .u64 (tx i : Int), .string (kstr (ky i)), .string ⟨#[]⟩, .bool false, .int .u64 0, .slice none 0 0] 34)).alloc (.cells #[.int .u8 (kd i : Int), .int .u64 (tx i : Int), .string (kstr (ky i)), .string ⟨#[]⟩, .bool false, .int .u64 0, .slice none 0 0] 34)) := k1.trans k2 (fun _ q => q.elim)
                              have e1 := heap_grow (.cells #[.int .u8 (kd i : Int), .int .u64 (tx i : Int), .string (kstr (ky i)), .string ⟨#[]⟩, .bool false, .int .u64 0, .slice none 0 0] 34) (heap_alloc_new wb (.cells #[.int .u8 (kd i : Int), .int .u64 (tx i : Int), .string (kstr (ky i)), .string ⟨#[]⟩, .bool false, .int .u64 0, .slice none 0 0] 34))
                              have e2 := heap_alloc_new (wb.alloc (.cells #[.int .u8 (kd i : Int), .int .u64 (tx i : Int), .string (kstr (ky i)), .string ⟨#[]⟩, .bool false, .int .u64 0, .slice none 0 0] 34)) (.cells #[.int .u8 (kd i : Int), .int .u64 (tx i : Int), .string (kstr (ky i)), .string ⟨#[]⟩, .bool false, .int .u64 0, .slice none 0 0] 34)
                              rw [World.size_alloc] at e2
                              have kz : Keep (fun _ => False) wb ((wb.alloc (.cells #[.int .u8 (kd i : Int), .int .u64 (tx i : Int), .string (kstr (ky i)), .string ⟨#[]⟩, .bool false, .int .u64 0, .slice none 0 0] 34)).alloc (.cells #[.int .u8 (kd i : Int), .int .u64 (tx i : Int), .string (kstr (ky i)), .string ⟨#[]⟩, .bool false, .int .u64 0, .slice none 0 0] 34)).drew := kk.drew
                              exact ⟨HR.out.quiet kz, e1, e2⟩
                            clear HR
                            go_big_region
                            · clear e0 e1 e2 e3 e4 e5 e6 d0 d1 d2 d3 d4 d5 d6
                              generalize ((wb.alloc (.cells #[.int .u8 (kd i : Int), .int .u64 (tx i : Int), .string (kstr (ky i)), .string ⟨#[]⟩, .bool false, .int .u64 0, .slice none 0 0] 34)).alloc (.cells #[.int .u8 (kd i : Int), .int .u64 (tx i : Int), .string (kstr (ky i)), .string ⟨#[]⟩, .bool false, .int .u64 0, .slice none 0 0] 34)).drew = wy at *
                              go_wp2
                              go_meet
                              exact ⟨_, _, rfl, rfl, HF⟩
                            · clear e0 e1 e2 e3 e4 e5 e6 d0 d1 d2 d3 d4 d5 d6
                              generalize ((wb.alloc (.cells #[.int .u8 (kd i : Int), .int .u64 (tx i : Int), .string (kstr (ky i)), .string ⟨#[]⟩, .bool false, .int .u64 0, .slice none 0 0] 34)).alloc (.cells #[.int .u8 (kd i : Int), .int .u64 (tx i : Int), .string (kstr (ky i)), .string ⟨#[]⟩, .bool false, .int .u64 0, .slice none 0 0] 34)).drew = wy at *
                              go_wp2
                              go_meet
                              exact ⟨_, _, rfl, rfl, HF.out.1, HF.out.2.2, HF.out.2.1⟩
                          case rest =>
                            clear HR e0 e1 e2 e3 e4 e5 e6 d0 d1 d2 d3 d4 d5 d6
                            obtain ⟨A, B, rfl, rfl, HF⟩ := hcut
                            have e0 : wc.cell? ⟨A, 0, none⟩ = some (.int .u8 (kd i : Int)) := cell_of _ _ 0 _ _ HF.out.2.1
                            have e1 : wc.cell? ⟨A, 1, none⟩ = some (.int .u64 (tx i : Int)) := cell_of _ _ 1 _ _ HF.out.2.1
                            have e2 : wc.cell? ⟨A, 2, none⟩ = some (.string (kstr (ky i))) := cell_of _ _ 2 _ _ HF.out.2.1
                            have e3 : wc.cell? ⟨A, 3, none⟩ = some (.string ⟨#[]⟩) := cell_of _ _ 3 _ _ HF.out.2.1
                            have e4 : wc.cell? ⟨A, 4, none⟩ = some (.bool false) := cell_of _ _ 4 _ _ HF.out.2.1
                            have e5 : wc.cell? ⟨A, 5, none⟩ = some (.int .u64 0) := cell_of _ _ 5 _ _ HF.out.2.1
                            have e6 : wc.cell? ⟨A, 6, none⟩ = some (.slice none 0 0) := cell_of _ _ 6 _ _ HF.out.2.1
                            have d0 : wc.cell? ⟨B, 0, none⟩ = some (.int .u8 (kd i : Int)) := cell_of _ _ 0 _ _ HF.out.2.2
                            have d1 : wc.cell? ⟨B, 1, none⟩ = some (.int .u64 (tx i : Int)) := cell_of _ _ 1 _ _ HF.out.2.2
                            have d2 : wc.cell? ⟨B, 2, none⟩ = some (.string (kstr (ky i))) := cell_of _ _ 2 _ _ HF.out.2.2
                            have d3 : wc.cell? ⟨B, 3, none⟩ = some (.string ⟨#[]⟩) := cell_of _ _ 3 _ _ HF.out.2.2
                            have d4 : wc.cell? ⟨B, 4, none⟩ = some (.bool false) := cell_of _ _ 4 _ _ HF.out.2.2
                            have d5 : wc.cell? ⟨B, 5, none⟩ = some (.int .u64 0) := cell_of _ _ 5 _ _ HF.out.2.2
                            have d6 : wc.cell? ⟨B, 6, none⟩ = some (.slice none 0 0) := cell_of _ _ 6 _ _ HF.out.2.2
                            go_wp2
                            go_roundg (M - (i + 1))
                            case measure => omega
                            case rel => exact ⟨i + 1, by omega, by go_num, rfl, HF.out.1⟩
                        · obtain rfl : M = i := by omega
                          have q9 : ¬ (M : Int) < (M : Int) := by omega
                          have HFin : Hid _ := HR.out.k
                          clear HR
                          go_wp2
                          go_ret
                          exact ⟨rfl, HFin.out⟩
end Go.Proofs.YbulkdvbsGreat

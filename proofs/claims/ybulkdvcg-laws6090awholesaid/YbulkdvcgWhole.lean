/-
  LawS6090AWhole, walked.
-/
import Derived.Test.YbulkdvcgHeld
import Derived.Laws.EntriesVeiled
import Derived.RegionTactic
import Derived.BigRegion
namespace Go.Proofs.Ybulkdvcg
open Go.RowKit
attribute [local go_sem ↓] exec_make24 exec_make32

set_option maxHeartbeats 4000000 in
set_option maxRecDepth 100000 in
theorem law3_any (a0 : Option Addr) (m c0 b0 o0 ni ns : Nat) (now sa ta sb tb : Int) (X : Tx) (w : World)
    (hm : m ≤ 1048576) (hni : ni ≤ 65535) (hns : ns ≤ 65535) (hst : ∀ i, 0 ≤ X.st i ∧ X.st i ≤ 255)
    (ha : a0 = none → m = 0 ∧ c0 = 0) (ha0 : 0 < m → a0 = some ⟨b0, o0, none⟩) (hs0 : ∀ i c, i < m → c < 3 → w.cell? ⟨b0, o0 + i * 3 + c, none⟩ = some (X.v i c)) :
    Calls Yba.prog 3 #[.slice a0 m c0, .int .u16 (ni : Int), .int .u16 (ns : Int), .int .i64 now, .int .i32 sa, .int .i32 ta, .int .i32 sb, .int .i32 tb] w fun e w' => e = .returned (.bool true) ∧ Below w.heap.size w w' := by
  have m1 : ¬ (1048576 : Int) < (m : Int) := by omega
  have m2 : (m : Int) ≤ 1048576 := by omega
  have r24 := fun W => run_mkv 24 29 z29 3 24 Yba.underlying24 inf29 (by omega) W m (by omega)
  have u22 := Yba.underlying22
  go_enter Yba.func3, Yba.ntmps3
  go_upto_if 33 with fail
  go_cut [17, 18] from 34 to 61 (fun s17 s18 wx => ∃ aT cT T, s17 = .slice aT m cT ∧ s18 = s18 ∧ Hid (Ts wx aT m cT T X) ∧ Hid (Keep (fun _ => False) w wx))
  case first =>
    cases a0 with
    | none =>
      obtain ⟨rfl, rfl⟩ := ha rfl
      go_wp2
      go_meet
      exact ⟨none, 0, 0, rfl, trivial, .inl ⟨rfl, rfl, rfl⟩, Keep.refl _ _⟩
    | some y =>
      have hM : Hid (TMade (w.alloc (Obj.cells (mc z29 3 m) 29)) w.heap.size m 0 X) := tmade_of _ _ _ _ (heap_alloc_new _ _)
      have hK : Hid (Keep (fun b => b = w.heap.size) w (w.alloc (Obj.cells (mc z29 3 m) 29))) := Keep.alloc _ w _
      generalize hTT : w.heap.size = T at *
      have hb0 : 0 < m → b0 < T := fun h => by have := World.block_lt_of_cell? w _ (hs0 0 0 h (by omega)); rw [hTT] at this; exact this
      have hTl : T < (w.alloc (Obj.cells (mc z29 3 m) 29)).heap.size := by simp [hTT]
      go_wp2
      generalize w.alloc (Obj.cells (mc z29 3 m) 29) = wM at *
      go_loopw [39] (fun i wr => ∃ k : Nat, k ≤ m ∧ i = .int .i64 k ∧ Hid (TMade wr T m k X) ∧ Hid (Keep (fun b => b = T) w wr) ∧ T < wr.heap.size) (fun i _ => m - (intOf i).toNat)
      case atStart => exact ⟨0, Nat.zero_le _, rfl, hM, hK, hTl⟩
      case round =>
        obtain ⟨k, hk, rfl, HM, HK, hTl2⟩ := hrel
        by_cases hlt : k < m
        · obtain rfl : y = ⟨b0, o0, none⟩ := Option.some.inj (ha0 (by omega))
          have k1 : (k : Int) < (m : Int) := by omega
          have k2 : (k : Int).toNat = k := by omega
          have hbT : b0 < w.heap.size := by rw [hTT]; exact hb0 (by omega)
          have hbn : ¬ b0 = T := by have := hb0 (by omega); omega
          have e0 : wr.cell? ⟨b0, o0 + k * 3, none⟩ = some (.int .i64 (X.id k)) := (HK.out.cell ⟨b0, o0 + k * 3, none⟩ hbT hbn).trans (hs0 k 0 hlt (by omega))
          have e1 : wr.cell? ⟨b0, o0 + k * 3 + 1, none⟩ = some (.int .u8 (X.st k)) := (HK.out.cell ⟨b0, o0 + k * 3 + 1, none⟩ hbT hbn).trans (hs0 k 1 hlt (by omega))
          have e2 : wr.cell? ⟨b0, o0 + k * 3 + 2, none⟩ = some (.int .i64 (X.en k)) := (HK.out.cell ⟨b0, o0 + k * 3 + 2, none⟩ hbT hbn).trans (hs0 k 2 hlt (by omega))
          have d0 : wr.cell? ⟨T, k * 3, none⟩ = some _ := HM.out.cell k 0 hlt (by omega)
          have d1 : wr.cell? ⟨T, k * 3 + 1, none⟩ = some _ := HM.out.cell k 1 hlt (by omega)
          have d2 : wr.cell? ⟨T, k * 3 + 2, none⟩ = some _ := HM.out.cell k 2 hlt (by omega)
          have z0 := HM.out.free (k * 3)
          have z1 := HM.out.free (k * 3 + 1)
          have z2 := HM.out.free (k * 3 + 2)
          have HM2 : Hid _ := HM.out.step hlt
          have HK2 : Hid (Keep (fun b => b = T) w (((wr.setCell ⟨T, k * 3, none⟩ (.int .i64 (X.id k))).setCell ⟨T, k * 3 + 1, none⟩ (.int .u8 (X.st k))).setCell ⟨T, k * 3 + 2, none⟩ (.int .i64 (X.en k)))) :=
            ((HK.out.trans (Keep.setCell wr ⟨T, k * 3, none⟩ _) (fun _ h => .inl h)).trans (Keep.setCell _ ⟨T, k * 3 + 1, none⟩ _) (fun _ h => .inl h)).trans (Keep.setCell _ ⟨T, k * 3 + 2, none⟩ _) (fun _ h => .inl h)
          go_upto_region 9 with fail
          go_region
          go_wp2
          go_roundw
          case rel => exact ⟨k + 1, by omega, by go_num, ⟨fun i c hi hc => HM2.out.cell i c hi hc, HM2.out.free⟩, HK2.out.drew, by simpa [World.setCell] using hTl2⟩
          case measure => simp [intOf]; omega
        · have e : m = k := by omega
          subst e
          go_wp2
          go_meet
          exact ⟨some ⟨T, 0, none⟩, m, T, rfl, trivial, .inr ⟨rfl, hTl2, HM.out.row⟩, HK.out.os, HK.out.tape, HK.out.output, HK.out.size, fun b hb _ => HK.out.block b hb (by omega)⟩
  case rest =>
    obtain ⟨aT, cT, T, rfl, -, HT, HKw⟩ := hcut
    clear r24 u22 ha ha0 hs0
    have r32 := fun W => run_mkv 32 119 z119 3 16 Yba.underlying32 inf119 (by omega) W ns (by omega)
    have HC := fun _ : Unit => HT.out.clone hm
    have hn1 : (ni : Int) ≤ 65535 := by omega
    have hn2 : (ns : Int) ≤ 65535 := by omega
    go_upto_region 14 with (first
      | (go_at_call 5; refine (HC ()).mono ?_; rintro e w1 ⟨cb, D, cc, rfl, hD, k1⟩; have HS := fun _ : Unit => scan_call (cc := cc) hm hni hns hst HT.out HKw.out k1 hD; clear HC hD k1)
      | (go_at_call 6; refine (HS ()).mono ?_; rintro e w6 ⟨E, K, A, B, C, rfl, HH0⟩; have HH : Hid _ := HH0; clear HH0 HS))
    clear r32 HT HKw
    generalize w1.heap.size + 1 = S at *
    generalize w1.heap.size = Z at *
    have y0 := HH.out.scan.k0
    have y1 := HH.out.scan.k1
    have y2 := HH.out.scan.k2
    have y3 := HH.out.scan.k3
    have y4 := HH.out.scan.k4
    have z13 : w6.cell? ⟨K, 13, none⟩ = some (.map none) := HH.out.scan.z 13 (by omega) (by omega)
    have z14 : w6.cell? ⟨K, 14, none⟩ = some (.int .u64 0) := HH.out.scan.z 14 (by omega) (by omega)
    have z15 : w6.cell? ⟨K, 15, none⟩ = some (.int .i64 0) := HH.out.scan.z 15 (by omega) (by omega)
    have z16 : w6.cell? ⟨K, 16, none⟩ = some (.slice none 0 0) := HH.out.scan.z 16 (by omega) (by omega)
    have z17 : w6.cell? ⟨K, 17, none⟩ = some (.slice none 0 0) := HH.out.scan.z 17 (by omega) (by omega)
    have z18 : w6.cell? ⟨K, 18, none⟩ = some (.slice none 0 0) := HH.out.scan.z 18 (by omega) (by omega)
    have z19 : w6.cell? ⟨K, 19, none⟩ = some (.slice none 0 0) := HH.out.scan.z 19 (by omega) (by omega)
    have z20 : w6.cell? ⟨K, 20, none⟩ = some (.slice none 0 0) := HH.out.scan.z 20 (by omega) (by omega)
    have z21 : w6.cell? ⟨K, 21, none⟩ = some (.slice none 0 0) := HH.out.scan.z 21 (by omega) (by omega)
    have z28 : w6.cell? ⟨K, 28, none⟩ = some (.slice none 0 0) := HH.out.scan.z 28 (by omega) (by omega)
    have z29 : w6.cell? ⟨K, 29, none⟩ = some (.slice none 0 0) := HH.out.scan.z 29 (by omega) (by omega)
    have z30 : w6.cell? ⟨K, 30, none⟩ = some (.pointer none) := HH.out.scan.z 30 (by omega) (by omega)
    have z31 : w6.cell? ⟨K, 31, none⟩ = some (.pointer none) := HH.out.scan.z 31 (by omega) (by omega)
    have z32 : w6.cell? ⟨K, 32, none⟩ = some (.pointer none) := HH.out.scan.z 32 (by omega) (by omega)
    have z33 : w6.cell? ⟨K, 33, none⟩ = some (.pointer none) := HH.out.scan.z 33 (by omega) (by omega)
    have z34 : w6.cell? ⟨K, 34, none⟩ = some (.pointer none) := HH.out.scan.z 34 (by omega) (by omega)
    have z35 : w6.cell? ⟨K, 35, none⟩ = some (.pointer none) := HH.out.scan.z 35 (by omega) (by omega)
    have z36 : w6.cell? ⟨K, 36, none⟩ = some (.int .i64 0) := HH.out.scan.z 36 (by omega) (by omega)
    have nS := run_neqS S
    go_wp2
    go_loopw [173] (fun i wr => ∃ k : Nat, k ≤ ni ∧ i = .int .i64 k ∧ w6 = wr) (fun i _ => ni - (intOf i).toNat)
    case atStart => exact ⟨0, Nat.zero_le _, rfl, rfl⟩
    case round =>
      obtain ⟨k, hk, rfl, rfl⟩ := hrel
      by_cases hlt : k < ni
      · have k1 : (k : Int) < (ni : Int) := by omega
        have k2 : (k : Int).toNat = k := by omega
        have d0 : w6.cell? ⟨A, k * 4, none⟩ = some (.int .i32 (-1)) := by have := HH.out.scan.items.cell k 0 hlt (by omega); simpa [iv, hlt] using this
        have d1 : w6.cell? ⟨A, k * 4 + 1, none⟩ = some (.int .u32 0) := by have := HH.out.scan.items.cell k 1 hlt (by omega); simpa [iv, hlt] using this
        have d2 : w6.cell? ⟨A, k * 4 + 2, none⟩ = some (.int .u32 0) := by have := HH.out.scan.items.cell k 2 hlt (by omega); simpa [iv, hlt] using this
        have d3 : w6.cell? ⟨A, k * 4 + 3, none⟩ = some (.int .u32 0) := by have := HH.out.scan.items.cell k 3 hlt (by omega); simpa [iv, hlt] using this
        go_wp2
        go_roundw
        case rel => exact ⟨k + 1, by omega, by go_num, trivial⟩
        case measure => simp [intOf]; omega
      · have e : ni = k := by omega
        subst e
        clear z28 z29 z30 z31 z32 z33 z34 z35 z36 nS y0 y1 y2
        clear z13 z14 z15 z16 z17 z18 z19 z20 z21 y4
        go_wp2
        clear y3
        go_loopw [199] (fun i wr => ∃ k : Nat, k ≤ m ∧ i = .int .i64 k ∧ Hid (Held w wr aT cb m cT T cc D S Z E K A B C ni ns 0 X)) (fun i _ => m - (intOf i).toNat)
        case atStart => exact ⟨0, Nat.zero_le _, rfl, HH⟩
        case round =>
          clear HH
          obtain ⟨k, hk, rfl, HH⟩ := hrel
          by_cases hlt : k < m
          · have k1 : (k : Int) < (m : Int) := by omega
            have k2 : (k : Int).toNat = k := by omega
            obtain ⟨rfl, hrow⟩ := HH.out.ts.row (by omega)
            have e3 := HH.out.scan.k3
            have eB : wr.cell? ⟨B, k, none⟩ = some (.int .u32 (endN (X.st k) (X.en k))) := HH.out.scan.ends.cell k hlt
            have t0 := hrow.c0 k hlt
            have t1 := hrow.c1 k hlt
            have t2 := hrow.c2 k hlt
            have HC : Hid (∀ v : World, Keep (fun _ => False) wr v → Calls Yba.prog 7 #[.agg #[.int .i64 (X.id k), .int .u8 (X.st k), .int .i64 (X.en k)]] v fun e w2 => e = .returned (.int .u32 (endN (X.st k) (X.en k))) ∧
                (w2.cell? ⟨K, 3, none⟩ = some (.slice (some ⟨B, 0, none⟩) m m) ∧ w2.cell? ⟨B, k, none⟩ = some (.int .u32 (endN (X.st k) (X.en k))) ∧ w2.cell? ⟨T, k * 3, none⟩ = some (.int .i64 (X.id k)) ∧ w2.cell? ⟨T, k * 3 + 1, none⟩ = some (.int .u8 (X.st k)) ∧ w2.cell? ⟨T, k * 3 + 2, none⟩ = some (.int .i64 (X.en k))) ∧
                Hid (Held w w2 (some ⟨T, 0, none⟩) cb m cT T cc D S Z E K A B C ni ns 0 X)) := by
              intro v kv
              refine (zend_any (X.id k) (X.st k) (X.en k) v (hst k)).mono ?_
              rintro e w2 ⟨rfl, hb⟩
              have hh := HH.out.keep2 (kv.trans (keep_bel hb) (fun _ h => h.elim))
              have hr2 := (hh.ts.row (by omega)).2
              exact ⟨rfl, ⟨hh.scan.k3, hh.scan.ends.cell k hlt, hr2.c0 k hlt, hr2.c1 k hlt, hr2.c2 k hlt⟩, hh⟩
            clear hrow
            go_upto_region 33 with fail
            go_region_held3 (fun w' => w'.cell? ⟨K, 3, none⟩ = some (.slice (some ⟨B, 0, none⟩) m m) ∧ w'.cell? ⟨B, k, none⟩ = some (.int .u32 (endN (X.st k) (X.en k))) ∧ w'.cell? ⟨T, k * 3, none⟩ = some (.int .i64 (X.id k)) ∧ w'.cell? ⟨T, k * 3 + 1, none⟩ = some (.int .u8 (X.st k)) ∧ w'.cell? ⟨T, k * 3 + 2, none⟩ = some (.int .i64 (X.en k))) (first | assumption | go_keep) (first
              | (go_at_call 7; refine (HC.out _ ?_).mono ?_; (exact ⟨rfl, rfl, rfl, Nat.le_refl _, fun _ _ _ => rfl⟩); rintro e w2 ⟨rfl, hS2, HH2⟩))
            go_wp2
            go_roundw
            case rel => exact ⟨k + 1, by omega, by go_num, HH2⟩
            case measure => simp [intOf]; omega
          · have e : m = k := by omega
            subst e
            obtain ⟨wE, hwE⟩ : ∃ x, x = wr := ⟨_, rfl⟩
            subst hwE
            have y4 := HH.out.scan.k4
            have y5 : wE.cell? ⟨K, 5, none⟩ = some (.func (.func 16) #[] #[.pointer (some ⟨E, 0, none⟩)]) := HH.out.scan.k5
            have y6 : wE.cell? ⟨K, 6, none⟩ = some (.func (.func 18) #[] #[]) := HH.out.scan.k6
            go_wp2
            go_loopw [229] (fun i wr => ∃ k : Nat, k ≤ ns ∧ i = .int .i64 k ∧ wE = wr) (fun i _ => ns - (intOf i).toNat)
            case atStart => exact ⟨0, Nat.zero_le _, rfl, rfl⟩
            case round =>
              obtain ⟨k, hk, rfl, rfl⟩ := hrel
              by_cases hlt : k < ns
              · have k1 : (k : Int) < (ns : Int) := by omega
                have k2 : (k : Int).toNat = k := by omega
                have d0 : wE.cell? ⟨C, k, none⟩ = some (.int .i32 0) := HH.out.scan.chain.cell k hlt
                go_wp2
                go_roundw
                case rel => exact ⟨k + 1, by omega, by go_num, trivial⟩
                case measure => simp [intOf]; omega
              · have e : ns = k := by omega
                subst e
                clear y4
                have z7 : wE.cell? ⟨K, 7, none⟩ = some (.slice none 0 0) := HH.out.scan.z 7 (by omega) (by omega)
                have z8 : wE.cell? ⟨K, 8, none⟩ = some (.int .i64 0) := HH.out.scan.z 8 (by omega) (by omega)
                have z9 : wE.cell? ⟨K, 9, none⟩ = some (.slice none 0 0) := HH.out.scan.z 9 (by omega) (by omega)
                have z10 : wE.cell? ⟨K, 10, none⟩ = some (.int .i64 0) := HH.out.scan.z 10 (by omega) (by omega)
                have z11 : wE.cell? ⟨K, 11, none⟩ = some (.slice none 0 0) := HH.out.scan.z 11 (by omega) (by omega)
                have z12 : wE.cell? ⟨K, 12, none⟩ = some (.int .i64 0) := HH.out.scan.z 12 (by omega) (by omega)
                have z13 : wE.cell? ⟨K, 13, none⟩ = some (.map none) := HH.out.scan.z 13 (by omega) (by omega)
                have z14 : wE.cell? ⟨K, 14, none⟩ = some (.int .u64 0) := HH.out.scan.z 14 (by omega) (by omega)
                have z15 : wE.cell? ⟨K, 15, none⟩ = some (.int .i64 0) := HH.out.scan.z 15 (by omega) (by omega)
                have z16 : wE.cell? ⟨K, 16, none⟩ = some (.slice none 0 0) := HH.out.scan.z 16 (by omega) (by omega)
                have z17 : wE.cell? ⟨K, 17, none⟩ = some (.slice none 0 0) := HH.out.scan.z 17 (by omega) (by omega)
                have z18 : wE.cell? ⟨K, 18, none⟩ = some (.slice none 0 0) := HH.out.scan.z 18 (by omega) (by omega)
                have z19 : wE.cell? ⟨K, 19, none⟩ = some (.slice none 0 0) := HH.out.scan.z 19 (by omega) (by omega)
                have z20 : wE.cell? ⟨K, 20, none⟩ = some (.slice none 0 0) := HH.out.scan.z 20 (by omega) (by omega)
                have z21 : wE.cell? ⟨K, 21, none⟩ = some (.slice none 0 0) := HH.out.scan.z 21 (by omega) (by omega)
                have g44 := fun W fn a b => run_eqf Yba.underlying44 W fn a b
                have g45 := fun W fn a b => run_eqf Yba.underlying45 W fn a b
                have g50 := run_neqM
                go_wp2
                clear g50 g44 g45 z13 z14 z15 z16 z17 z18 z19 z20 z21
                go_loopw [319] (fun i wr => ∃ k : Nat, k ≤ 3 ∧ i = .int .i64 k ∧ wE = wr) (fun i _ => 3 - (intOf i).toNat)
                case atStart => exact ⟨0, Nat.zero_le _, rfl, rfl⟩
                case round =>
                  obtain ⟨k, hk, rfl, rfl⟩ := hrel
                  by_cases hlt : k < 3
                  · have hk3 : k = 0 ∨ k = 1 ∨ k = 2 := by omega
                    rcases hk3 with rfl | rfl | rfl
                    · go_wp2
                      go_roundw
                      case rel => exact ⟨1, by omega, by go_num, trivial⟩
                      case measure => simp [intOf]
                    · go_wp2
                      go_roundw
                      case rel => exact ⟨2, by omega, by go_num, trivial⟩
                      case measure => simp [intOf]
                    · go_wp2
                      go_roundw
                      case rel => exact ⟨3, by omega, by go_num, trivial⟩
                      case measure => simp [intOf]
                  · obtain rfl : k = 3 := by omega
                    clear z7 z8 z9 z10 z11 z12
                    have HSm := fun _ : Unit => same_any sa ta sb tb wE
                    go_wp2_with (first
                      | (go_at_call 18; refine (HSm ()).mono ?_; rintro e w7 ⟨rfl, hb7⟩; have HH7 : Hid _ := HH.out.keep2 (keep_bel hb7); have x1 := HH7.out.scan.k1; have x1f := HH7.out.scan.free 1; clear HSm hb7))
                    have HL7 : Hid (Late w (w7.setCell ⟨K, 1, none⟩ (.int .i64 now)) aT cb m cT T D S Z E K B ni ns now X) := HH7.out.late
                    clear HH HH7 x1 x1f y5 y6
                    go_loopw [362] (fun i wr => ∃ k : Nat, k ≤ m ∧ i = .int .i64 k ∧ Hid (Late w wr aT cb m cT T D S Z E K B ni ns now X)) (fun i _ => m - (intOf i).toNat)
                    case atStart => exact ⟨0, Nat.zero_le _, rfl, HL7⟩
                    case round =>
                      clear HL7
                      obtain ⟨k, hk, rfl, HL⟩ := hrel
                      by_cases hlt : k < m
                      · have k1 : (k : Int) < (m : Int) := by omega
                        have k2 : (k : Int).toNat = k := by omega
                        have k3 : IntKind.i32.wrap (k : Int) = (k : Int) := wrap32_small _ (by omega) (by omega)
                        obtain ⟨rfl, hrow⟩ := HL.out.ts.row (by omega)
                        have t0 := hrow.c0 k hlt
                        have t1 := hrow.c1 k hlt
                        have t2 := hrow.c2 k hlt
                        have HZ := fun _ : Unit => zend_any (X.id k) (X.st k) (X.en k) wr (hst k)
                        clear hrow
                        have hrg := endN_range (X.st k) (X.en k)
                        generalize hEN : endN (X.st k) (X.en k) = en at *
                        go_wp2_with (first
                          | (go_at_call 7; refine (HZ ()).mono ?_; rintro e w8 ⟨rfl, hb8⟩; have HL8 : Hid _ := HL.out.keep2 (keep_bel hb8); have x5 := HL8.out.k5; have HG := fun _ : Unit => gone_any E K B m m sa k en now w8 hlt HL8.out.e HL8.out.k3 HL8.out.k1 (by rw [← hEN]; exact HL8.out.ends.cell k hlt); clear HZ hb8)
                          | (go_at_call 16; refine (HG ()).mono ?_; rintro e w9 ⟨rfl, hb9⟩; have HL9 : Hid _ := HL8.out.keep2 (keep_bel hb9); clear HG hb9))
                        go_roundw
                        case rel => exact ⟨k + 1, by omega, by go_num, HL9⟩
                        case measure => simp [intOf]; omega
                      · have e : m = k := by omega
                        subst e
                        have x0 := HL.out.s0
                        have x2 := HL.out.s2
                        have x4 := HL.out.s4
                        have HE := fun _ : Unit => equalT cb aT m cc cT D T X wr hm (fun h => ⟨(HL.out.cl h).1, (HL.out.cl h).2.2⟩) (fun h => HL.out.ts.row h)
                        go_wp2_with (first
                          | (go_at_call 8; refine (HE ()).mono ?_; rintro e w9 ⟨rfl, q, rfl⟩; clear HE))
                        go_ret
                        exact ⟨rfl, (HL.out.keep.drewN q).below (fun _ h => h.elim) (Nat.le_refl _)⟩

end Go.Proofs.Ybulkdvcg

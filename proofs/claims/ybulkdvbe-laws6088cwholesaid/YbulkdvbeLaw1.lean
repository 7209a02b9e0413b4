import Derived.Test.YbulkdvbeLat
import Derived.Deep.RegionHeld3
import Derived.Deep.DrawnRows
import Derived.Deep.CutBlock
namespace Go.Proofs.Ybulkdvbe
open Go.RowKit

attribute [local go_sem ↓] exec_load25 exec_store25 exec_store37 exec_alloc25 exec_neq25 exec_zero25 exec_msg exec_make Go.wp_at_zero Go.wp_at_succ
attribute [local go_sem] run_zero25 neq_zero neq_same run_msg run_makeMsgs hashA_size

set_option maxHeartbeats 2000000 in
set_option maxRecDepth 100000 in
theorem law_any (a0 : Option Addr) (n cap b off : Nat) (B P R : Nat → Int) (w : World) (hn : n ≤ 1048576) (ha : 0 < n → a0 = some ⟨b, off, none⟩)
    (hB : ∀ j, j < n → w.cell? ⟨b, off + j * 3, none⟩ = some (.int .u8 (B j)))
    (hP : ∀ j, j < n → w.cell? ⟨b, off + j * 3 + 1, none⟩ = some (.int .u8 (P j)))
    (hR : ∀ j, j < n → w.cell? ⟨b, off + j * 3 + 2, none⟩ = some (.int .u32 (R j)))
    (wB : ∀ j, j < n → 0 ≤ B j ∧ B j ≤ 255) (wP : ∀ j, j < n → 0 ≤ P j ∧ P j ≤ 255) :
    Calls Yba.prog 3 #[.slice a0 n cap] w fun e w' => e = .returned (.bool true) ∧ Below w.heap.size w w' := by
  have hn' : ¬ (1048576 : Int) < (n : Int) := by omega
  have hbw : 0 < n → b < w.heap.size := fun h => World.block_lt_of_cell? w _ (hB 0 h)
  go_enter Yba.func3, Yba.ntmps3
  go_wp2
  go_loopw [21] (fun i wr => ∃ k : Nat, k ≤ n ∧ i = .int .i64 k ∧ Laid w w.heap.size n B P R k wr) (fun i _ => n - (intOf i).toNat)
  case atStart =>
    refine ⟨0, Nat.zero_le _, rfl, (Below.refl _ _).alloc (Nat.le_refl _) _, by simp, ?_, fun j hj => by omega⟩
    exact there_block _ _ _ (made n) 37 (heap_alloc_new w _) (by rw [made_size]; exact Nat.le_refl _)
  case round =>
    obtain ⟨k, hk, rfl, hL⟩ := hrel
    rename_i wr
    by_cases hlt : k < n
    · obtain rfl := ha (by omega)
      have hbM : b < w.heap.size := World.block_lt_of_cell? w _ (hB k hlt)
      have hS : Held7 w n b off B P R k wr := ⟨hL, by rw [hL.below.cell (p := ⟨b, _, none⟩) hbM]; exact hB k hlt, by rw [hL.below.cell (p := ⟨b, _, none⟩) hbM]; exact hP k hlt, by rw [hL.below.cell (p := ⟨b, _, none⟩) hbM]; exact hR k hlt⟩
      have hst := fun W => Laid.run_store (w := w) (M := w.heap.size) (B := B) (P := P) (R := R) hlt W
      obtain ⟨p0, p1⟩ := wP k hlt
      have k0 : (0 : Int) ≤ (k : Int) := by omega
      have k1 : (k : Int) < (n : Int) := by omega
      clear hB hP hR wB wP hL
      as_aux_lemma =>
      go_wp2
      go_region_held3 (fun w' => Laid w w.heap.size n B P R k w' ∧ w'.cell? ⟨b, off + k * 3, none⟩ = some (.int .u8 (B k)) ∧ w'.cell? ⟨b, off + k * 3 + 1, none⟩ = some (.int .u8 (P k)) ∧ w'.cell? ⟨b, off + k * 3 + 2, none⟩ = some (.int .u32 (R k)))
        (first | exact Held7.drew hS | exact Held7.later (by assumption) (by assumption) | exact Held7.store hbM hlt (by assumption))
        (first | (go_at_call 4; refine (hash_any _ _ _ _ p0 p1).mono ?_; rintro e w1 ⟨rfl, hb1⟩; have hL1 : Laid w w.heap.size n B P R k w1 := (show Held7 w n b off B P R k _ from by assumption).1.later hb1))
      go_wp2
      go_roundw
      case rel => exact ⟨k + 1, by omega, by go_num, Laid.store hL1 hlt⟩
      case measure => simp [intOf]; omega
    · have hkn : k = n := by omega
      subst hkn
      go_wp2_with (first | (go_at_call 5; refine (highest_any k w.heap.size B P R _ hn (fun j hj => hL.hash j hj) (fun j hj => hL.at j hj 39 _ (msgL_at B P R j 39 _ (by omega) rfl))).mono ?_; rintro e w1 ⟨rfl, hq⟩))
      have hL1 : Laid w w.heap.size k B P R k w1 := by obtain ⟨q, rfl⟩ := hq; exact hL.drewN q
      clear hq hL hk hlt
      have hB1 : ∀ j, j < k → w1.cell? ⟨b, off + j * 3, none⟩ = some (.int .u8 (B j)) := fun j hj => by
        rw [hL1.below.cell (World.block_lt_of_cell? w _ (hB j hj))]; exact hB j hj
      have hP1 : ∀ j, j < k → w1.cell? ⟨b, off + j * 3 + 1, none⟩ = some (.int .u8 (P j)) := fun j hj => by
        rw [hL1.below.cell (World.block_lt_of_cell? w _ (hP j hj))]; exact hP j hj
      have hR1 : ∀ j, j < k → w1.cell? ⟨b, off + j * 3 + 2, none⟩ = some (.int .u32 (R j)) := fun j hj => by
        rw [hL1.below.cell (World.block_lt_of_cell? w _ (hR j hj))]; exact hR j hj
      clear hB hP hR
      go_loop [6, 7, 44] (fun f t i => ∃ m : Nat, m ≤ k ∧ i = .int .i64 m ∧ f = .bool (tops B R m).isSome ∧ t = .int .u32 ((tops B R m).getD 0)) (fun _ _ i => k - (intOf i).toNat)
      case atStart => exact ⟨0, Nat.zero_le _, rfl, rfl, rfl⟩
      case round =>
        obtain ⟨m, hm, rfl, rfl, rfl⟩ := hrel
        by_cases hmk : m < k
        · obtain rfl := ha (by omega)
          have c0 := hB1 m hmk
          have c2 := hR1 m hmk
          have HT : Hid (tops B R (m + 1) = if B m = 0 then tops B R m else match tops B R m with
            | none => some (R m)
            | some t => if t < R m then some (R m) else some t) := rfl
          clear hB1 hP1 hR1 hL1
          as_aux_lemma =>
          by_cases hb : B m = 0
          · have hb' : (B m != 0) = false := by simpa using hb
            have HT2 : Hid (tops B R (m + 1) = tops B R m) := by have := HT.out; rw [if_pos hb] at this; exact this
            clear hb HT
            go_wp2
            go_round
            case rel => exact ⟨m + 1, by omega, by go_num, by rw [HT2.out], by rw [HT2.out]⟩
            case measure => simp [intOf]; omega
          · have hb' : (B m != 0) = true := by simpa using hb
            have HT1 : Hid (tops B R (m + 1) = match tops B R m with
              | none => some (R m)
              | some t => if t < R m then some (R m) else some t) := by have := HT.out; rw [if_neg hb] at this; exact this
            clear hb HT
            cases ht : tops B R m with
            | none =>
              have HT2 : Hid (tops B R (m + 1) = some (R m)) := by have := HT1.out; rw [ht] at this; exact this
              clear HT1 ht
              simp only [Option.isSome_none, Option.getD_none]
              go_wp2
              go_round
              case rel => exact ⟨m + 1, by omega, by go_num, by rw [HT2.out]; rfl, by rw [HT2.out]; rfl⟩
              case measure => simp [intOf]; omega
            | some t =>
              have HT2 : Hid (tops B R (m + 1) = if t < R m then some (R m) else some t) := by have := HT1.out; rw [ht] at this; exact this
              clear HT1 ht
              simp only [Option.isSome_some, Option.getD_some]
              by_cases hr : t < R m
              · go_wp2
                go_round
                case rel => exact ⟨m + 1, by omega, by go_num, by rw [HT2.out, if_pos hr]; rfl, by rw [HT2.out, if_pos hr]; rfl⟩
                case measure => simp [intOf]; omega
              · go_wp2
                go_round
                case rel => exact ⟨m + 1, by omega, by go_num, by rw [HT2.out, if_neg (by omega)]; rfl, by rw [HT2.out, if_neg (by omega)]; rfl⟩
                case measure => simp [intOf]; omega
        · have hmk2 : m = k := by omega
          subst hmk2
          clear hm hmk
          have HS : Hid (match best B R m with
            | none => tops B R m = none ∧ ∀ i, i < m → B i = 0
            | some j => j < m ∧ B j ≠ 0 ∧ tops B R m = some (R j) ∧ (∀ i, i < j → B i ≠ 0 → R i < R j) ∧ ∀ i, i < m → B i ≠ 0 → R i ≤ R j) := best_spec B R m
          go_upto_block 4 with fail
          go_cut [9] from 70 to 91 (fun v wc => wc = w1 ∧ ((best B R m = none ∧ v = .int .i64 (-1)) ∨ ∃ j : Nat, best B R m = some j ∧ v = .int .i64 j))
          case first =>
            as_aux_lemma =>
            go_wp2_with fail
            go_loop [9, 72] (fun v i => ∃ q : Nat, q ≤ m ∧ i = .int .i64 q ∧ v = .int .i64 (-1) ∧ ∀ j, best B R m = some j → q ≤ j) (fun _ i => m - (intOf i).toNat)
            case atStart => exact ⟨0, Nat.zero_le _, rfl, rfl, fun _ _ => Nat.zero_le _⟩
            case round =>
              obtain ⟨q, hq, rfl, rfl, HQ0⟩ := hrel
              have HQ : Hid (∀ j, best B R m = some j → q ≤ j) := HQ0
              clear HQ0
              by_cases hqm : q < m
              · obtain rfl := ha (by omega)
                have c0 := hB1 q hqm
                have c2 := hR1 q hqm
                clear hB1 hP1 hR1 hL1
                by_cases hb : B q = 0
                · have hb' : (B q != 0) = false := by simpa using hb
                  have HQ2 : Hid (∀ j, best B R m = some j → q + 1 ≤ j) := fun j hj => by
                    have h1 := HS.out; rw [hj] at h1
                    have h2 := HQ.out j hj
                    have : q ≠ j := fun e => h1.2.1 (e ▸ hb)
                    omega
                  clear hb
                  go_wp2
                  go_round
                  case rel => exact ⟨q + 1, by omega, by go_num, rfl, HQ2.out⟩
                  case measure => simp [intOf]; omega
                · have hb' : (B q != 0) = true := by simpa using hb
                  by_cases hr : R q = (tops B R m).getD 0
                  · have hr' : (R q == (tops B R m).getD 0) = true := by simpa using hr
                    have HF : Hid (best B R m = some q) := by
                      have h1 := HS.out
                      cases hj : best B R m with
                      | none => rw [hj] at h1; exact absurd (h1.2 q hqm) hb
                      | some j =>
                        rw [hj] at h1
                        have h2 := HQ.out j hj
                        rw [h1.2.2.1] at hr
                        simp at hr
                        by_cases e : q = j
                        · subst e; exact rfl
                        · have := h1.2.2.2.1 q (by omega) hb; omega
                    clear hb hr
                    go_wp2
                    go_meet
                    case rel => exact ⟨rfl, .inr ⟨q, HF.out, rfl⟩⟩
                  · have hr' : (R q == (tops B R m).getD 0) = false := by simpa using hr
                    have HQ2 : Hid (∀ j, best B R m = some j → q + 1 ≤ j) := fun j hj => by
                      have h1 := HS.out; rw [hj] at h1
                      have h2 := HQ.out j hj
                      have : q ≠ j := fun e => hr (by rw [h1.2.2.1, e]; rfl)
                      omega
                    clear hb hr
                    go_wp2
                    go_round
                    case rel => exact ⟨q + 1, by omega, by go_num, rfl, HQ2.out⟩
                    case measure => simp [intOf]; omega
              · have HF : Hid (best B R m = none) := by
                  have h1 := HS.out
                  cases hj : best B R m with
                  | none => rfl
                  | some j => rw [hj] at h1; have := HQ.out j hj; omega
                go_wp2
                go_meet
                case rel => exact ⟨rfl, .inl ⟨HF.out, rfl⟩⟩
          case rest =>
            obtain ⟨rfl, HC⟩ := hcut
            have HC2 : Hid ((best B R m = none ∧ _) ∨ _) := HC
            clear HC
            go_wp2
            go_loopw [94] (fun i wr => ∃ q : Nat, q ≤ m ∧ i = .int .i64 q ∧ Laid w w.heap.size m B P R m wr) (fun i _ => m - (intOf i).toNat)
            case atStart => exact ⟨0, Nat.zero_le _, rfl, hL1⟩
            case round =>
              obtain ⟨q, hq, rfl, hL2⟩ := hrel
              by_cases hqm : q < m
              · obtain rfl := ha (by omega)
                have hne : Nonempty (Lat wr) := ⟨⟨wr, Below.refl _ _⟩⟩
                have hLn : ∀ n : Lat wr, Laid w w.heap.size m B P R m n.w := fun n => hL2.later n.h
                have old : ∀ (n : Lat wr) (i : Nat) (v : Value), wc.cell? ⟨b, i, none⟩ = some v → b < w.heap.size → n.w.cell? ⟨b, i, none⟩ = some v := fun n i v hv hb => by
                  rw [(hLn n).below.cell (p := ⟨b, i, none⟩) hb, ← hL1.below.cell (p := ⟨b, i, none⟩) hb]; exact hv
                have hbM : b < w.heap.size := hbw (by omega)
                have c0 : ∀ n : Lat wr, n.w.cell? ⟨b, off + q * 3, none⟩ = some (.int .u8 (B q)) := fun n => old n _ _ (hB1 q hqm) hbM
                have c1 : ∀ n : Lat wr, n.w.cell? ⟨b, off + q * 3 + 1, none⟩ = some (.int .u8 (P q)) := fun n => old n _ _ (hP1 q hqm) hbM
                have c2 : ∀ n : Lat wr, n.w.cell? ⟨b, off + q * 3 + 2, none⟩ = some (.int .u32 (R q)) := fun n => old n _ _ (hR1 q hqm) hbM
                have m3 : ∀ n : Lat wr, (opLoad 25 (.pointer (some ⟨w.heap.size, q * 43 + 3, none⟩))).run Yba.prog n.w = .ok (.value (.agg (hashA (B q) (P q)))) n.w := fun n => by
                  have := run_load25 n.w w.heap.size (q * 43 + 3) _ ((hLn n).hash q hqm) (by simp [hashA_size])
                  simpa using this
                have m0 : ∀ n : Lat wr, n.w.cell? ⟨w.heap.size, q * 43, none⟩ = some (.int .u8 0) := fun n => (hLn n).at q hqm 0 _ (msgL_low B P R q 0 _ (by omega) rfl)
                have m1 : ∀ n : Lat wr, n.w.cell? ⟨w.heap.size, q * 43 + 1, none⟩ = some (.int .u64 0) := fun n => (hLn n).at q hqm 1 _ (msgL_low B P R q 1 _ (by omega) rfl)
                have m2 : ∀ n : Lat wr, n.w.cell? ⟨w.heap.size, q * 43 + 2, none⟩ = some (.int .u32 0) := fun n => (hLn n).at q hqm 2 _ (msgL_low B P R q 2 _ (by omega) rfl)
                have m35 : ∀ n : Lat wr, n.w.cell? ⟨w.heap.size, q * 43 + 35, none⟩ = some (.int .i64 q) := fun n => (hLn n).at q hqm 35 _ (msgL_at B P R q 35 _ (by omega) rfl)
                have m36 : ∀ n : Lat wr, n.w.cell? ⟨w.heap.size, q * 43 + 36, none⟩ = some (.int .i64 0) := fun n => (hLn n).at q hqm 36 _ (msgL_at B P R q 36 _ (by omega) rfl)
                have m37 : ∀ n : Lat wr, n.w.cell? ⟨w.heap.size, q * 43 + 37, none⟩ = some (.pointer none) := fun n => (hLn n).at q hqm 37 _ (msgL_at B P R q 37 _ (by omega) rfl)
                have m38 : ∀ n : Lat wr, n.w.cell? ⟨w.heap.size, q * 43 + 38, none⟩ = some (.slice none 0 0) := fun n => (hLn n).at q hqm 38 _ (msgL_at B P R q 38 _ (by omega) rfl)
                have m39 : ∀ n : Lat wr, n.w.cell? ⟨w.heap.size, q * 43 + 39, none⟩ = some (.int .u32 (R q)) := fun n => (hLn n).at q hqm 39 _ (msgL_at B P R q 39 _ (by omega) rfl)
                have m40 : ∀ n : Lat wr, n.w.cell? ⟨w.heap.size, q * 43 + 40, none⟩ = some (.pointer none) := fun n => (hLn n).at q hqm 40 _ (msgL_at B P R q 40 _ (by omega) rfl)
                have m41 : ∀ n : Lat wr, n.w.cell? ⟨w.heap.size, q * 43 + 41, none⟩ = some (.slice none 0 0) := fun n => (hLn n).at q hqm 41 _ (msgL_at B P R q 41 _ (by omega) rfl)
                have m42 : ∀ n : Lat wr, n.w.cell? ⟨w.heap.size, q * 43 + 42, none⟩ = some (.slice none 0 0) := fun n => (hLn n).at q hqm 42 _ (msgL_at B P R q 42 _ (by omega) rfl)
                obtain ⟨p0, p1⟩ := wP q hqm
                have HLn : Hid (∀ n : Lat wr, Laid w w.heap.size m B P R m n.w) := hLn
                clear hLn old hB1 hP1 hR1 hL1 hL2 wB wP hbw
                as_aux_lemma =>
                go_wp2
                refine wp_region_lat (by kernel_rfl) (by kernel_rfl) ?_
                iterate 10 (go_big_quiet_step ((go_at_call 4; exact lat_call (hash_any _ _ _ _ p0 p1))))
                as_aux_lemma =>
                iterate 10 (go_big_quiet_step ((go_at_call 4; exact lat_call (hash_any _ _ _ _ p0 p1))))
                as_aux_lemma =>
                iterate 10 (go_big_quiet_step ((go_at_call 4; exact lat_call (hash_any _ _ _ _ p0 p1))))
                as_aux_lemma =>
                iterate 10 (go_big_quiet_step ((go_at_call 4; exact lat_call (hash_any _ _ _ _ p0 p1))))
                as_aux_lemma =>
                iterate 10 (go_big_quiet_step ((go_at_call 4; exact lat_call (hash_any _ _ _ _ p0 p1))))
                as_aux_lemma =>
                iterate 10 (go_big_quiet_step ((go_at_call 4; exact lat_call (hash_any _ _ _ _ p0 p1))))
                as_aux_lemma =>
                iterate 10 (go_big_quiet_step ((go_at_call 4; exact lat_call (hash_any _ _ _ _ p0 p1))))
                as_aux_lemma =>
                iterate 10 (go_big_quiet_step ((go_at_call 4; exact lat_call (hash_any _ _ _ _ p0 p1))))
                as_aux_lemma =>
                repeat (go_big_quiet_step ((go_at_call 4; exact lat_call (hash_any _ _ _ _ p0 p1))))
                refine wpQuiet_nil ?_
                intro _ hw'
                obtain ⟨nq, hw''⟩ := hw'
                subst hw''
                go_wp2
                go_roundw
                case rel => exact ⟨q + 1, by omega, by go_num, HLn.out nq⟩
                case measure => simp [intOf]; omega
              · have HF : Below w.heap.size w wr := hL2.below
                as_aux_lemma =>
                rcases HC2.out with ⟨hb, rfl⟩ | ⟨j, hb, rfl⟩
                · rw [hb]
                  clear hb HC2
                  unfold ptrOf
                  go_wp2
                  go_ret
                  exact ⟨rfl, HF⟩
                · have hj : j < m := best_lt B R m j hb
                  have hj1 : (j : Int) < (m : Int) := by omega
                  rw [hb]
                  clear hb HC2
                  unfold ptrOf
                  have he := fun W => run_eql38 W ⟨w.heap.size, j * 43, none⟩
                  go_wp2
                  go_ret
                  exact ⟨rfl, HF⟩

end Go.Proofs.Ybulkdvbe

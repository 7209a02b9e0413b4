/-
  slices.Sort at []int32, of at most twelve: a shuffle.
-/
import Derived.Test.YbulkdvbsGreatLen
namespace Go.Proofs.YbulkdvbsGreat
open Go.RowKit

set_option maxHeartbeats 1000000 in
theorem nan_i32 (x : Int) (w : World) : Calls Ybaz.prog 99 #[(.int .i32 x)] w fun e w' => e = .returned (.bool false) ∧ w' = w := by
  go_enter Ybaz.func99, Ybaz.ntmps99
  go_wp2
  go_ret
  exact ⟨by simp, rfl⟩
set_option maxHeartbeats 1000000 in
theorem less_i32 (x y : Int) : ∃ b, ∀ w : World, Calls Ybaz.prog 227 #[(.int .i32 x), (.int .i32 y)] w fun e w' => e = .returned (.bool b) ∧ ∃ n, w' = w.drewN n := by
  refine ⟨decide (x < y), fun w => ?_⟩
  have HN := fun (_ : Unit) (z : Int) (W : World) => nan_i32 z W
  go_enter Ybaz.func227, Ybaz.ntmps227
  go_wp2_with (go_at_call 99; refine (HN () _ _).mono ?_; rintro e w2 ⟨rfl, rfl⟩)
  go_ret
  exact ⟨rfl, 0, rfl⟩

set_option maxHeartbeats 2000000 in
set_option maxRecDepth 100000 in
theorem ins_i32 (a : Option Addr) (b n c : Nat) (x : Nat → Int) (w : World) (hn : n ≤ 12) (ha : 0 < n → a = some ⟨b, 0, none⟩) (hr : Row w b n (fun i => (.int .i32 (x i)))) :
    Calls Ybaz.prog 221 #[.slice a n c, .int .i64 0, .int .i64 (n : Int)] w fun e w' => e = .returned (.tuple #[]) ∧ ∃ σ, Bij n σ ∧ Row w' b n (fun i => (.int .i32 (x (σ i)))) ∧ Keep (fun k => k = b) w w' := by
  have hn2 : (n : Int) ≤ 12 := by omega
  go_enter Ybaz.func221, Ybaz.ntmps221
  go_wp2
  go_loopw [6] (fun s wr => ∃ (i : Nat) (σ : Nat → Nat), i ≤ 12 ∧ s = .int .i64 ((i : Int) + 1) ∧ Hid (Bij n σ) ∧ Hid (Row wr b n (fun i => (.int .i32 (x (σ i))))) ∧ Hid (Keep (fun k => k = b) w wr)) (fun s _ => n + 1 - (intOf s).toNat)
  case atStart => exact ⟨0, fun i => i, by omega, rfl, Bij.id n, hr, Keep.refl _ _⟩
  case round =>
    obtain ⟨i, σ, hi, rfl, HB, HR, HK⟩ := hrel
    clear hr
    by_cases hlt : i + 1 < n
    · have k1 : (i : Int) + 1 < (n : Int) := by omega
      obtain rfl := ha (by omega)
      go_wp2
      go_loopw [7] (fun s wr => ∃ (j : Nat) (σ : Nat → Nat), j < n ∧ s = .int .i64 (j : Int) ∧ Hid (Bij n σ) ∧ Hid (Row wr b n (fun i => (.int .i32 (x (σ i))))) ∧ Hid (Keep (fun k => k = b) w wr)) (fun s _ => (intOf s).toNat)
      case atStart => exact ⟨i + 1, σ, by omega, by push_cast; rfl, HB, HR, HK⟩
      case round =>
        clear HB HR HK
        obtain ⟨j, σ, hj, rfl, HB, HR, HK⟩ := hrel
        cases j with
        | zero =>
          go_wp2
          go_quiet (fail)
          go_wp2
          go_roundw
          case rel => exact ⟨i + 1, σ, by omega, by go_num, HB, ⟨fun i hi => HR.out.cell i hi, HR.out.free⟩, HK.out.drewN _⟩
          case measure => simp [intOf]; omega
        | succ j =>
          have jc : ((j + 1 : Nat) : Int) = (j : Int) + 1 := by omega
          rw [jc]
          have j1 : (j : Int) + 1 < (n : Int) := by omega
          have j2 : (j : Int) < (n : Int) := by omega
          have j3 : ((j : Int) + 1).toNat = j + 1 := by omega
          have j4 : (j : Int).toNat = j := by omega
          have j5 : (0 : Int) < (j : Int) + 1 := by omega
          have j6 : (0 : Int) ≤ (j : Int) + 1 := by omega
          have j7 : IntKind.i64.wrap ((j : Int) + 1 - 1) = (j : Int) := by rw [IntKind.wrap_i64]; omega
          have e1 := HR.out.cell (j + 1) hj
          have e0 := HR.out.cell j (by omega)
          obtain ⟨bb, HL⟩ := less_i32 (x (σ (j + 1))) (x (σ j))
          have HLL := fun _ : Unit => HL
          clear HL
          go_wp2
          go_quiet (first
            | (go_at_call 227; exact Calls.quiet_of (HLL () _)))
          cases bb with
          | true =>
            have HR2 : Hid _ := (HR.out.set (j + 1) (.int .i32 (x (σ j))) hj).set j (.int .i32 (x (σ (j + 1)))) (by omega)
            have f1 := HR.out.free (j + 1)
            have f0 := HR.out.free j
            have HK2 : Hid (Keep (fun k => k = b) w ((wr.setCell ⟨b, j + 1, none⟩ (.int .i32 (x (σ j)))).setCell ⟨b, j, none⟩ (.int .i32 (x (σ (j + 1)))))) := (HK.out.trans (Keep.setCell wr ⟨b, j + 1, none⟩ _) (fun _ h => .inl h)).trans (Keep.setCell _ ⟨b, j, none⟩ _) (fun _ h => .inl h)
            go_wp2
            go_region
            go_wp2
            go_roundw
            case rel =>
              refine ⟨j, fun i => if i = j + 1 then σ j else if i = j then σ (j + 1) else σ i, by omega, by go_num, HB.out.swap hj (by omega), ⟨fun i hi => ?_, HR2.out.free⟩, ⟨HK2.out.os, HK2.out.tape, HK2.out.output, HK2.out.size, HK2.out.block⟩⟩
              refine (HR2.out.cell i hi).trans ?_
              dsimp only
              by_cases q1 : i = j
              · subst q1; simp
              · by_cases q2 : i = j + 1
                · subst q2; simp
                · simp [q1, q2]
            case measure => simp [intOf]
          | false =>
            go_wp2
            go_roundw
            case rel => exact ⟨i + 1, σ, by omega, by go_num, HB, ⟨fun i hi => HR.out.cell i hi, HR.out.free⟩, HK.out.drewN _⟩
            case measure => simp [intOf]; omega
    · have k1 : ¬ (i : Int) + 1 < (n : Int) := by omega
      go_wp2
      go_end0
      exact ⟨rfl, σ, HB, HR, HK⟩

set_option maxHeartbeats 1000000 in
set_option maxRecDepth 100000 in
theorem pdq_i32 (a : Option Addr) (b n c : Nat) (l : Int) (x : Nat → Int) (w : World) (hn : n ≤ 12) (ha : 0 < n → a = some ⟨b, 0, none⟩) (hr : Row w b n (fun i => (.int .i32 (x i)))) :
    Calls Ybaz.prog 187 #[.slice a n c, .int .i64 0, .int .i64 (n : Int), .int .i64 l] w fun e w' => e = .returned (.tuple #[]) ∧ ∃ σ, Bij n σ ∧ Row w' b n (fun i => (.int .i32 (x (σ i)))) ∧ Keep (fun k => k = b) w w' := by
  have hn2 : (n : Int) ≤ 12 := by omega
  have HI := fun _ : Unit => ins_i32 a b n c x w hn ha hr
  clear ha hr
  go_enter Ybaz.func187, Ybaz.ntmps187
  go_wp2
  refine wp_loop_once ?_
  go_wp2_with (go_at_call 221; refine (HI ()).mono ?_; rintro e w2 ⟨rfl, h2⟩)
  refine bodyPost_ret (results_none rfl _ _ _) rfl ?_
  exact ⟨rfl, h2⟩

set_option maxHeartbeats 1000000 in
set_option maxRecDepth 100000 in
theorem sort_i32 (a : Option Addr) (b n c : Nat) (x : Nat → Int) (w : World) (hn : n ≤ 12) (ha : 0 < n → a = some ⟨b, 0, none⟩) (hr : Row w b n (fun i => (.int .i32 (x i)))) :
    Calls Ybaz.prog 116 #[.slice a n c] w fun e w' => e = .returned (.tuple #[]) ∧ ∃ σ, Bij n σ ∧ Row w' b n (fun i => (.int .i32 (x (σ i)))) ∧ Keep (fun k => k = b) w w' := by
  have hn2 : (n : Int) ≤ 12 := by omega
  obtain ⟨l, HL0⟩ := len_small n hn
  have HL := fun _ : Unit => HL0 w
  have HI := fun _ : Unit => pdq_i32 a b n c l x w hn ha hr
  clear ha hr HL0
  go_enter Ybaz.func116, Ybaz.ntmps116
  go_wp2_with (first
    | (go_at_call 21; refine (HL ()).mono ?_; rintro e w2 ⟨rfl, rfl⟩)
    | (go_at_call 187; refine (HI ()).mono ?_; rintro e w2 ⟨rfl, h2⟩))
  go_end0
  exact ⟨rfl, h2⟩
end Go.Proofs.YbulkdvbsGreat

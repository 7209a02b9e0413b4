/-
  segments and split over one key, walked.
-/
import Derived.Test.YbulkdvbsGreatTree
namespace Go.Proofs.YbulkdvbsGreat
open Go.RowKit

set_option maxHeartbeats 2000000 in
set_option maxRecDepth 100000 in
/-- One key: one leaf is visited. -/
theorem segments_one (m lo : Nat) (id : Nat) (caps : Array Value) (w : World) (hlo : lo < m) (hm : m ≤ 3) (R : World → Prop) (hcf : ∀ args W, (callFunc id args).run Ybaz.prog W = .ok (.enter id args) W)
    (H : Unit → Calls Ybaz.prog id (#[.int .i64 ((m : Int) + (lo : Int)), .int .i64 (lo : Int), .int .i64 ((lo : Int) + 1)] ++ caps) w fun e w' => e = .returned (.tuple #[]) ∧ R w') :
    Calls Ybaz.prog 104 #[.int .i64 (m : Int), .int .i64 (lo : Int), .int .i64 ((lo : Int) + 1), .func (.func id) #[] caps] w fun e w' => e = .returned (.tuple #[]) ∧ R w' := by
  have hc : (m = 1 ∧ lo = 0) ∨ (m = 2 ∧ lo = 0) ∨ (m = 2 ∧ lo = 1) ∨ (m = 3 ∧ lo = 0) ∨ (m = 3 ∧ lo = 1) ∨ (m = 3 ∧ lo = 2) := by omega
  rcases hc with ⟨rfl, rfl⟩ | ⟨rfl, rfl⟩ | ⟨rfl, rfl⟩ | ⟨rfl, rfl⟩ | ⟨rfl, rfl⟩ | ⟨rfl, rfl⟩
  · have H2 : Unit → Calls Ybaz.prog id (#[.int .i64 1, .int .i64 0, .int .i64 1] ++ caps) w fun e w' => e = .returned (.tuple #[]) ∧ R w' := H
    clear H hlo hm
    show Calls Ybaz.prog 104 #[.int .i64 1, .int .i64 0, .int .i64 1, .func (.func id) #[] caps] w _
    go_enter Ybaz.func104, Ybaz.ntmps104
    go_wp2
    go_loopw [8, 9, 10] (fun s8 s9 s10 wr => (s8 = .int .i64 1 ∧ s9 = .int .i64 1 ∧ s10 = .int .i64 2 ∧ w = wr) ∨ (s9 = .int .i64 1 ∧ s10 = .int .i64 1 ∧ R wr)) (fun _ s9 s10 _ => (intOf s10 - intOf s9).toNat)
    case atStart => exact .inl ⟨rfl, rfl, rfl, rfl⟩
    case round =>
      rcases hrel with ⟨rfl, rfl, rfl, rfl⟩ | ⟨rfl, rfl, hR⟩
      · go_wp2_with (first
          | (refine (H2 ()).mono ?_; rintro e w2 ⟨rfl, hR⟩))
        go_roundw
        case rel => exact .inr ⟨rfl, rfl, hR⟩
        case measure => decide
      · go_wp2
        go_end0
        exact ⟨rfl, hR⟩
  · have H2 : Unit → Calls Ybaz.prog id (#[.int .i64 2, .int .i64 0, .int .i64 1] ++ caps) w fun e w' => e = .returned (.tuple #[]) ∧ R w' := H
    clear H hlo hm
    show Calls Ybaz.prog 104 #[.int .i64 2, .int .i64 0, .int .i64 1, .func (.func id) #[] caps] w _
    go_enter Ybaz.func104, Ybaz.ntmps104
    go_wp2
    go_loopw [8, 9, 10] (fun s8 s9 s10 wr => (s8 = .int .i64 1 ∧ s9 = .int .i64 2 ∧ s10 = .int .i64 3 ∧ w = wr) ∨ (s9 = .int .i64 1 ∧ s10 = .int .i64 1 ∧ R wr)) (fun _ s9 s10 _ => (intOf s10 - intOf s9).toNat)
    case atStart => exact .inl ⟨rfl, rfl, rfl, rfl⟩
    case round =>
      rcases hrel with ⟨rfl, rfl, rfl, rfl⟩ | ⟨rfl, rfl, hR⟩
      · go_wp2_with (first
          | (refine (H2 ()).mono ?_; rintro e w2 ⟨rfl, hR⟩))
        go_roundw
        case rel => exact .inr ⟨rfl, rfl, hR⟩
        case measure => decide
      · go_wp2
        go_end0
        exact ⟨rfl, hR⟩
  · have H2 : Unit → Calls Ybaz.prog id (#[.int .i64 3, .int .i64 1, .int .i64 2] ++ caps) w fun e w' => e = .returned (.tuple #[]) ∧ R w' := H
    clear H hlo hm
    show Calls Ybaz.prog 104 #[.int .i64 2, .int .i64 1, .int .i64 2, .func (.func id) #[] caps] w _
    go_enter Ybaz.func104, Ybaz.ntmps104
    go_wp2
    go_loopw [8, 9, 10] (fun s8 s9 s10 wr => (s8 = .int .i64 1 ∧ s9 = .int .i64 3 ∧ s10 = .int .i64 4 ∧ w = wr) ∨ (s9 = .int .i64 2 ∧ s10 = .int .i64 2 ∧ R wr)) (fun _ s9 s10 _ => (intOf s10 - intOf s9).toNat)
    case atStart => exact .inl ⟨rfl, rfl, rfl, rfl⟩
    case round =>
      rcases hrel with ⟨rfl, rfl, rfl, rfl⟩ | ⟨rfl, rfl, hR⟩
      · go_wp2_with (first
          | (refine (H2 ()).mono ?_; rintro e w2 ⟨rfl, hR⟩))
        go_roundw
        case rel => exact .inr ⟨rfl, rfl, hR⟩
        case measure => decide
      · go_wp2
        go_end0
        exact ⟨rfl, hR⟩
  · have H2 : Unit → Calls Ybaz.prog id (#[.int .i64 3, .int .i64 0, .int .i64 1] ++ caps) w fun e w' => e = .returned (.tuple #[]) ∧ R w' := H
    clear H hlo hm
    show Calls Ybaz.prog 104 #[.int .i64 3, .int .i64 0, .int .i64 1, .func (.func id) #[] caps] w _
    go_enter Ybaz.func104, Ybaz.ntmps104
    go_wp2
    go_loopw [8, 9, 10] (fun s8 s9 s10 wr => (s8 = .int .i64 1 ∧ s9 = .int .i64 3 ∧ s10 = .int .i64 4 ∧ w = wr) ∨ (s9 = .int .i64 2 ∧ s10 = .int .i64 2 ∧ R wr)) (fun _ s9 s10 _ => (intOf s10 - intOf s9).toNat)
    case atStart => exact .inl ⟨rfl, rfl, rfl, rfl⟩
    case round =>
      rcases hrel with ⟨rfl, rfl, rfl, rfl⟩ | ⟨rfl, rfl, hR⟩
      · go_wp2_with (first
          | (refine (H2 ()).mono ?_; rintro e w2 ⟨rfl, hR⟩))
        go_roundw
        case rel => exact .inr ⟨rfl, rfl, hR⟩
        case measure => decide
      · go_wp2
        go_end0
        exact ⟨rfl, hR⟩
  · have H2 : Unit → Calls Ybaz.prog id (#[.int .i64 4, .int .i64 1, .int .i64 2] ++ caps) w fun e w' => e = .returned (.tuple #[]) ∧ R w' := H
    clear H hlo hm
    show Calls Ybaz.prog 104 #[.int .i64 3, .int .i64 1, .int .i64 2, .func (.func id) #[] caps] w _
    go_enter Ybaz.func104, Ybaz.ntmps104
    go_wp2
    go_loopw [8, 9, 10] (fun s8 s9 s10 wr => (s8 = .int .i64 1 ∧ s9 = .int .i64 4 ∧ s10 = .int .i64 5 ∧ w = wr) ∨ (s9 = .int .i64 2 ∧ s10 = .int .i64 2 ∧ R wr)) (fun _ s9 s10 _ => (intOf s10 - intOf s9).toNat)
    case atStart => exact .inl ⟨rfl, rfl, rfl, rfl⟩
    case round =>
      rcases hrel with ⟨rfl, rfl, rfl, rfl⟩ | ⟨rfl, rfl, hR⟩
      · go_wp2_with (first
          | (refine (H2 ()).mono ?_; rintro e w2 ⟨rfl, hR⟩))
        go_roundw
        case rel => exact .inr ⟨rfl, rfl, hR⟩
        case measure => decide
      · go_wp2
        go_end0
        exact ⟨rfl, hR⟩
  · have H2 : Unit → Calls Ybaz.prog id (#[.int .i64 5, .int .i64 2, .int .i64 3] ++ caps) w fun e w' => e = .returned (.tuple #[]) ∧ R w' := H
    clear H hlo hm
    show Calls Ybaz.prog 104 #[.int .i64 3, .int .i64 2, .int .i64 3, .func (.func id) #[] caps] w _
    go_enter Ybaz.func104, Ybaz.ntmps104
    go_wp2
    go_loopw [8, 9, 10] (fun s8 s9 s10 wr => (s8 = .int .i64 1 ∧ s9 = .int .i64 5 ∧ s10 = .int .i64 6 ∧ w = wr) ∨ (s9 = .int .i64 3 ∧ s10 = .int .i64 3 ∧ R wr)) (fun _ s9 s10 _ => (intOf s10 - intOf s9).toNat)
    case atStart => exact .inl ⟨rfl, rfl, rfl, rfl⟩
    case round =>
      rcases hrel with ⟨rfl, rfl, rfl, rfl⟩ | ⟨rfl, rfl, hR⟩
      · go_wp2_with (first
          | (refine (H2 ()).mono ?_; rintro e w2 ⟨rfl, hR⟩))
        go_roundw
        case rel => exact .inr ⟨rfl, rfl, hR⟩
        case measure => decide
      · go_wp2
        go_end0
        exact ⟨rfl, hR⟩

set_option maxHeartbeats 2000000 in
set_option maxRecDepth 100000 in
/-- No key: nothing is visited. -/
theorem segments_none (m lo : Nat) (f : Value) (w : World) (hlo : lo ≤ m) (hm : m ≤ 3) : Calls Ybaz.prog 104 #[.int .i64 (m : Int), .int .i64 (lo : Int), .int .i64 (lo : Int), f] w fun e w' => e = .returned (.tuple #[]) ∧ w' = w := by
  have m1 : (m : Int) ≤ 3 := by omega
  have l1 : (lo : Int) ≤ (m : Int) := by omega
  go_enter Ybaz.func104, Ybaz.ntmps104
  go_wp2
  refine wp_loop_once ?_
  go_wp2
  go_end0
  exact ⟨rfl, rfl⟩

set_option maxHeartbeats 2000000 in
set_option maxRecDepth 100000 in
/-- split with nothing to skip: one run. -/
theorem split_one (lo hi : Int) (id : Nat) (caps : Array Value) (w : World) (hlo : lo < hi) (R : World → Prop) (hcf : ∀ args W, (callFunc id args).run Ybaz.prog W = .ok (.enter id args) W)
    (H : Unit → Calls Ybaz.prog id (#[.int .i64 lo, .int .i64 hi] ++ caps) w fun e w' => e = .returned (.tuple #[]) ∧ R w') :
    Calls Ybaz.prog 94 #[.int .i64 lo, .int .i64 hi, .slice none 0 0, .func (.func id) #[] caps] w fun e w' => e = .returned (.tuple #[]) ∧ R w' := by
  go_enter Ybaz.func94, Ybaz.ntmps94
  go_wp2
  refine wp_loop_once ?_
  go_wp2_with (first
    | (refine (H ()).mono ?_; rintro e w2 ⟨rfl, hR⟩))
  go_end0
  exact ⟨rfl, hR⟩
end Go.Proofs.YbulkdvbsGreat

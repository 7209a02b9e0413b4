/-
  bits.Len at small numbers.
-/
import Derived.Test.YbulkdvbsGreatBase
namespace Go.Proofs.YbulkdvbsGreat
open Go.RowKit

set_option maxHeartbeats 2000000 in
set_option maxRecDepth 100000 in
theorem len64_small (n : Nat) (hn : n ≤ 12) : ∃ l : Int, ∀ w : World, Calls Ybaz.prog 83 #[.int .u64 (n : Int)] w fun e w' => e = .returned (.int .i64 l) ∧ w' = w := by
  have hc : n = 0 ∨ n = 1 ∨ n = 2 ∨ n = 3 ∨ n = 4 ∨ n = 5 ∨ n = 6 ∨ n = 7 ∨ n = 8 ∨ n = 9 ∨ n = 10 ∨ n = 11 ∨ n = 12 := by omega
  rcases hc with rfl | rfl | rfl | rfl | rfl | rfl | rfl | rfl | rfl | rfl | rfl | rfl | rfl
  · refine ⟨0, fun w => ?_⟩
    go_enter Ybaz.func83, Ybaz.ntmps83
    go_wp2
    go_ret
    exact ⟨by kernel_rfl, rfl⟩
  · refine ⟨1, fun w => ?_⟩
    go_enter Ybaz.func83, Ybaz.ntmps83
    go_wp2
    go_ret
    exact ⟨by kernel_rfl, rfl⟩
  · refine ⟨2, fun w => ?_⟩
    go_enter Ybaz.func83, Ybaz.ntmps83
    go_wp2
    go_ret
    exact ⟨by kernel_rfl, rfl⟩
  · refine ⟨2, fun w => ?_⟩
    go_enter Ybaz.func83, Ybaz.ntmps83
    go_wp2
    go_ret
    exact ⟨by kernel_rfl, rfl⟩
  · refine ⟨3, fun w => ?_⟩
    go_enter Ybaz.func83, Ybaz.ntmps83
    go_wp2
    go_ret
    exact ⟨by kernel_rfl, rfl⟩
  · refine ⟨3, fun w => ?_⟩
    go_enter Ybaz.func83, Ybaz.ntmps83
    go_wp2
    go_ret
    exact ⟨by kernel_rfl, rfl⟩
  · refine ⟨3, fun w => ?_⟩
    go_enter Ybaz.func83, Ybaz.ntmps83
    go_wp2
    go_ret
    exact ⟨by kernel_rfl, rfl⟩
  · refine ⟨3, fun w => ?_⟩
    go_enter Ybaz.func83, Ybaz.ntmps83
    go_wp2
    go_ret
    exact ⟨by kernel_rfl, rfl⟩
  · refine ⟨4, fun w => ?_⟩
    go_enter Ybaz.func83, Ybaz.ntmps83
    go_wp2
    go_ret
    exact ⟨by kernel_rfl, rfl⟩
  · refine ⟨4, fun w => ?_⟩
    go_enter Ybaz.func83, Ybaz.ntmps83
    go_wp2
    go_ret
    exact ⟨by kernel_rfl, rfl⟩
  · refine ⟨4, fun w => ?_⟩
    go_enter Ybaz.func83, Ybaz.ntmps83
    go_wp2
    go_ret
    exact ⟨by kernel_rfl, rfl⟩
  · refine ⟨4, fun w => ?_⟩
    go_enter Ybaz.func83, Ybaz.ntmps83
    go_wp2
    go_ret
    exact ⟨by kernel_rfl, rfl⟩
  · refine ⟨4, fun w => ?_⟩
    go_enter Ybaz.func83, Ybaz.ntmps83
    go_wp2
    go_ret
    exact ⟨by kernel_rfl, rfl⟩
set_option maxHeartbeats 2000000 in
set_option maxRecDepth 100000 in
theorem len_small (n : Nat) (hn : n ≤ 12) : ∃ l : Int, ∀ w : World, Calls Ybaz.prog 21 #[.int .u64 (n : Int)] w fun e w' => e = .returned (.int .i64 l) ∧ w' = w := by
  obtain ⟨l, h⟩ := len64_small n hn
  refine ⟨l, fun w => ?_⟩
  have H := fun _ : Unit => h w
  clear h
  go_enter Ybaz.func21, Ybaz.ntmps21
  go_wp2_with (go_at_call 83; refine (H ()).mono ?_; rintro e w2 ⟨rfl, rfl⟩)
  go_ret
  exact ⟨rfl, rfl⟩
end Go.Proofs.YbulkdvbsGreat

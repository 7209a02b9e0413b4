import Derived.Test.YbulkdvbsGr2
import Derived.Deep.QuietTactic
import Derived.BigQuiet
namespace Go.Proofs.Ybulkdvbs
open Go.RowKit

set_option maxHeartbeats 1000000 in
/-- slices.Equal over two []int that hold the same. -/
theorem equal_int (a1 a2 : Option Addr) (n c1 c2 : Nat) (f : Nat → Int) (w : World) (hn : n ≤ 1000000) (h1 : 0 < n → ∃ b, a1 = some ⟨b, 0, none⟩ ∧ ∀ i, i < n → w.cell? ⟨b, i, none⟩ = some (.int .i64 (f i))) (h2 : 0 < n → ∃ b, a2 = some ⟨b, 0, none⟩ ∧ ∀ i, i < n → w.cell? ⟨b, i, none⟩ = some (.int .i64 (f i))) :
    Calls Yba.prog 8 #[.slice a1 n c1, .slice a2 n c2] w fun e w' => e = .returned (.bool true) ∧ ∃ q, w' = w.drewN q := by
  have hn2 : (n : Int) ≤ 1000000 := by omega
  go_enter Yba.func8, Yba.ntmps8
  go_wp2
  go_loopw [13] (fun i wr => ∃ k : Nat, k ≤ n ∧ i = .int .i64 k ∧ Hid (∃ q, wr = w.drewN q)) (fun i _ => n - (intOf i).toNat)
  case atStart => exact ⟨0, Nat.zero_le _, rfl, 0, rfl⟩
  case round =>
    obtain ⟨k, hk, rfl, hw⟩ := hrel
    by_cases hlt : k < n
    · obtain ⟨x1, rfl, r1⟩ := h1 (by omega)
      obtain ⟨x2, rfl, r2⟩ := h2 (by omega)
      have e1 : wr.cell? ⟨x1, k, none⟩ = some (.int .i64 (f k)) := by obtain ⟨q, rfl⟩ := hw; simpa using r1 k hlt
      have e2 : wr.cell? ⟨x2, k, none⟩ = some (.int .i64 (f k)) := by obtain ⟨q, rfl⟩ := hw; simpa using r2 k hlt
      have k0 : (0 : Int) ≤ (k : Int) := by omega
      have k1 : (k : Int) < (n : Int) := by omega
      clear h1 h2 r1 r2
      go_wp2
      go_quiet (fail)
      go_wp2
      go_roundw
      case rel => exact ⟨k + 1, by omega, by go_num, by obtain ⟨q, rfl⟩ := hw; exact ⟨_, by rw [World.drewN_drewN]⟩⟩
      case measure => simp [intOf]; omega
    · have e : k = n := by omega
      subst e
      go_wp2
      go_ret
      exact ⟨rfl, hw⟩

set_option maxHeartbeats 1000000 in
/-- slices.Equal over two []int32 that hold the same. -/
theorem equal_i32 (a1 a2 : Option Addr) (n c1 c2 : Nat) (f : Nat → Int) (w : World) (hn : n ≤ 1000000) (h1 : 0 < n → ∃ b, a1 = some ⟨b, 0, none⟩ ∧ ∀ i, i < n → w.cell? ⟨b, i, none⟩ = some (.int .i32 (f i))) (h2 : 0 < n → ∃ b, a2 = some ⟨b, 0, none⟩ ∧ ∀ i, i < n → w.cell? ⟨b, i, none⟩ = some (.int .i32 (f i))) :
    Calls Yba.prog 9 #[.slice a1 n c1, .slice a2 n c2] w fun e w' => e = .returned (.bool true) ∧ ∃ q, w' = w.drewN q := by
  have hn2 : (n : Int) ≤ 1000000 := by omega
  go_enter Yba.func9, Yba.ntmps9
  go_wp2
  go_loopw [13] (fun i wr => ∃ k : Nat, k ≤ n ∧ i = .int .i64 k ∧ Hid (∃ q, wr = w.drewN q)) (fun i _ => n - (intOf i).toNat)
  case atStart => exact ⟨0, Nat.zero_le _, rfl, 0, rfl⟩
  case round =>
    obtain ⟨k, hk, rfl, hw⟩ := hrel
    by_cases hlt : k < n
    · obtain ⟨x1, rfl, r1⟩ := h1 (by omega)
      obtain ⟨x2, rfl, r2⟩ := h2 (by omega)
      have e1 : wr.cell? ⟨x1, k, none⟩ = some (.int .i32 (f k)) := by obtain ⟨q, rfl⟩ := hw; simpa using r1 k hlt
      have e2 : wr.cell? ⟨x2, k, none⟩ = some (.int .i32 (f k)) := by obtain ⟨q, rfl⟩ := hw; simpa using r2 k hlt
      have k0 : (0 : Int) ≤ (k : Int) := by omega
      have k1 : (k : Int) < (n : Int) := by omega
      clear h1 h2 r1 r2
      go_wp2
      go_quiet (fail)
      go_wp2
      go_roundw
      case rel => exact ⟨k + 1, by omega, by go_num, by obtain ⟨q, rfl⟩ := hw; exact ⟨_, by rw [World.drewN_drewN]⟩⟩
      case measure => simp [intOf]; omega
    · have e : k = n := by omega
      subst e
      go_wp2
      go_ret
      exact ⟨rfl, hw⟩

end Go.Proofs.Ybulkdvbs

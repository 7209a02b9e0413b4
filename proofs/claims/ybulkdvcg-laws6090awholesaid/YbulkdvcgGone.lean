/-
  The closure 'gone' of newClassScan, walked.
-/
import Derived.Test.YbulkdvcgTxn
namespace Go.Proofs.Ybulkdvcg
open Go.RowKit

set_option maxHeartbeats 1000000 in
set_option maxRecDepth 100000 in
theorem gone_any (E K B nt cb : Nat) (s : Int) (i : Nat) (x now : Int) (w : World) (hi : i < nt)
    (he : w.cell? ⟨E, 0, none⟩ = some (.pointer (some ⟨K, 0, none⟩))) (h3 : w.cell? ⟨K, 3, none⟩ = some (.slice (some ⟨B, 0, none⟩) nt cb)) (h1 : w.cell? ⟨K, 1, none⟩ = some (.int .i64 now)) (hb : w.cell? ⟨B, i, none⟩ = some (.int .u32 x)) :
    Calls Yba.prog 16 #[.agg #[.int .i32 s, .int .i32 (i : Int)], .pointer (some ⟨E, 0, none⟩)] w fun e w' => e = .returned (.bool (decide (x / 2 < now % 4294967296))) ∧ Below w.heap.size w w' := by
  have HS : ∀ (_ : Unit) (W : World), Calls Yba.prog 17 #[.int .u32 x, .int .i64 now] W fun e w' => e = .returned (.bool (decide (x / 2 < now % 4294967296))) ∧ ∃ n, w' = W.drewN n := fun _ W => (endedBy_any x now W).mono fun e w' h => ⟨h.1, 0, h.2⟩
  have k0 : (0 : Int) ≤ (i : Int) := by omega
  have k1 : (i : Int) < (nt : Int) := by omega
  have k2 : (i : Int).toNat = i := by omega
  have l1 := World.block_lt_of_cell? w _ he
  have l2 := World.block_lt_of_cell? w _ h3
  have l3 := World.block_lt_of_cell? w _ hb
  have n1 : E ≠ w.heap.size := by simp at l1; omega
  have n2 : K ≠ w.heap.size := by simp at l2; omega
  have n3 : B ≠ w.heap.size := by simp at l3; omega
  go_enter Yba.func16, Yba.ntmps16
  go_wp2
  go_quiet (first
    | (go_at_call 17; exact Calls.quiet_of (HS () _)))
  go_wp2
  go_ret
  exact ⟨rfl, ((Keep.alloc (fun _ => False) w _).drewN nq).below (fun _ h => h.elim) (Nat.le_refl _)⟩

end Go.Proofs.Ybulkdvcg

/-
  The ends of transactions: endOf, the law's own, and what asks them.
-/
import Derived.Test.YbulkdvcgEq
namespace Go.Proofs.Ybulkdvcg
open Go.RowKit

/-- The end of a transaction: twice its end step for a commit, one more for an abort, all ones otherwise. -/
def endN (st e : Int) : Int := if st = 1 then (2 * e) % 4294967296 else if st = 2 then (2 * e) % 4294967296 + 1 else 4294967295
theorem endN_range (st e : Int) : 0 ≤ endN st e ∧ endN st e ≤ 4294967295 := by
  unfold endN
  split
  · omega
  · split <;> omega

set_option maxHeartbeats 1000000 in
theorem zend_any (id st e : Int) (w : World) (hst : 0 ≤ st ∧ st ≤ 255) :
    Calls Yba.prog 7 #[.agg #[.int .i64 id, .int .u8 st, .int .i64 e]] w fun x w' => x = .returned (.int .u32 (endN st e)) ∧ Below w.heap.size w w' := by
  by_cases h1 : st = 1
  · subst h1
    go_enter Yba.func7, Yba.ntmps7
    go_wp2
    go_ret
    refine ⟨?_, (Below.refl _ _).alloc (Nat.le_refl _) _⟩
    simp [endN]
    omega
  · by_cases h2 : st = 2
    · subst h2
      go_enter Yba.func7, Yba.ntmps7
      go_wp2
      go_ret
      refine ⟨?_, (Below.refl _ _).alloc (Nat.le_refl _) _⟩
      simp [endN]
      omega
    · have h3 : (st == 1) = false := by simpa using h1
      have h4 : (st == 2) = false := by simpa using h2
      go_enter Yba.func7, Yba.ntmps7
      go_wp2
      go_ret
      refine ⟨?_, (Below.refl _ _).alloc (Nat.le_refl _) _⟩
      simp [endN, h1, h2]

set_option maxHeartbeats 1000000 in
theorem endOf_any (id st e : Int) (w : World) (hst : 0 ≤ st ∧ st ≤ 255) :
    Calls Yba.prog 15 #[.agg #[.int .i64 id, .int .u8 st, .int .i64 e]] w fun x w' => x = .returned (.int .u32 (endN st e)) ∧ Below w.heap.size w w' := by
  by_cases h1 : st = 1
  · subst h1
    go_enter Yba.func15, Yba.ntmps15
    go_wp2
    go_ret
    refine ⟨?_, (Below.refl _ _).alloc (Nat.le_refl _) _⟩
    simp [endN]
    omega
  · by_cases h2 : st = 2
    · subst h2
      go_enter Yba.func15, Yba.ntmps15
      go_wp2
      go_ret
      refine ⟨?_, (Below.refl _ _).alloc (Nat.le_refl _) _⟩
      simp [endN]
      rw [bits_join .u32 32 (by decide) (fun n h0 h1 => by rw [IntKind.wrap_u32]; omega) 1 _ 1 (by omega) (by omega) (by omega) (by omega) (by omega) (by omega)]
      omega
    · have h3 : (st == 1) = false := by simpa using h1
      have h4 : (st == 2) = false := by simpa using h2
      go_enter Yba.func15, Yba.ntmps15
      go_wp2
      go_ret
      refine ⟨?_, (Below.refl _ _).alloc (Nat.le_refl _) _⟩
      simp [endN, h1, h2]

set_option maxHeartbeats 1000000 in
theorem step_any (x : Int) (w : World) : Calls Yba.prog 22 #[.int .u32 x] w fun e w' => e = .returned (.int .u32 (x / 2)) ∧ w' = w := by
  go_enter Yba.func22, Yba.ntmps22
  go_wp2
  go_ret
  exact ⟨by simp, rfl⟩

set_option maxHeartbeats 1000000 in
theorem endedBy_any (x now : Int) (w : World) : Calls Yba.prog 17 #[.int .u32 x, .int .i64 now] w fun e w' => e = .returned (.bool (decide (x / 2 < now % 4294967296))) ∧ w' = w := by
  have HS := fun (_ : Unit) (W : World) => step_any x W
  go_enter Yba.func17, Yba.ntmps17
  go_wp2_with (go_at_call 22; refine (HS () _).mono ?_; rintro e w2 ⟨rfl, rfl⟩)
  go_ret
  exact ⟨by simp, rfl⟩

set_option maxHeartbeats 1000000 in
theorem same_any (sa ta sb tb : Int) (w : World) : Calls Yba.prog 18 #[.agg #[.int .i32 sa, .int .i32 ta], .agg #[.int .i32 sb, .int .i32 tb]] w fun e w' => e = .returned (.bool (ta == tb)) ∧ Below w.heap.size w w' := by
  go_enter Yba.func18, Yba.ntmps18
  go_wp2
  go_ret
  exact ⟨rfl, ((Below.refl _ _).alloc (Nat.le_refl _) _).alloc (by simp) _⟩

set_option maxHeartbeats 1000000 in
theorem len_any (S : Nat) (a : Option Addr) (n c : Nat) (w : World) (h : w.cell? ⟨S, 2, none⟩ = some (.slice a n c)) : Calls Yba.prog 14 #[.pointer (some ⟨S, 0, none⟩)] w fun e w' => e = .returned (.int .i64 n) ∧ w' = w := by
  go_enter Yba.func14, Yba.ntmps14
  go_wp2
  go_ret
  exact ⟨rfl, rfl⟩

end Go.Proofs.Ybulkdvcg

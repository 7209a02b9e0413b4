import Derived.Test.YbulkdvbeEq
import Derived.Deep.QuietTactic
import Derived.BigQuiet
namespace Go.Proofs.Ybulkdvbe
open Go.RowKit

/-- The first of the first k claims that names a block prepared in the highest round. -/
def best (B R : Nat → Int) : Nat → Option Nat
  | 0 => none
  | k + 1 => if B k = 0 then best B R k else match best B R k with
    | none => some k
    | some j => if R j < R k then some k else some j
def ptrOf (blk : Nat) : Option Nat → Value
  | none => .pointer none
  | some j => .pointer (some ⟨blk, j * 43, none⟩)
theorem best_lt (B R : Nat → Int) : ∀ k j, best B R k = some j → j < k
  | 0, j, h => by simp [best] at h
  | k + 1, j, h => by
    unfold best at h
    have ih := best_lt B R k
    split at h
    · have := ih j h; omega
    · split at h
      · simp at h; omega
      · rename_i i hi
        have := ih i hi
        split at h <;> (simp at h; omega)

attribute [local go_sem ↓] exec_load25 exec_store25 exec_store37 exec_alloc25 exec_neq25 exec_zero25
attribute [local go_sem] run_zero25 neq_zero neq_same

set_option maxHeartbeats 1000000 in
theorem highest_any (n blk : Nat) (B P R : Nat → Int) (w : World) (hn : n ≤ 1048576)
    (hH : ∀ j, j < n → w.rangeAt blk (j * 43 + 3) (hashA (B j) (P j)).toList) (hR : ∀ j, j < n → w.cell? ⟨blk, j * 43 + 39, none⟩ = some (.int .u32 (R j))) :
    Calls Yba.prog 5 #[.slice (some ⟨blk, 0, none⟩) n n] w fun e w' => e = .returned (ptrOf blk (best B R n)) ∧ ∃ q, w' = w.drewN q := by
  go_enter Yba.func5, Yba.ntmps5
  go_wp2
  go_loopw [3, 8] (fun t i wr => ∃ k : Nat, k ≤ n ∧ i = .int .i64 k ∧ t = ptrOf blk (best B R k) ∧ Hid (∃ q, wr = w.drewN q)) (fun _ i _ => n - (intOf i).toNat)
  case atStart => exact ⟨0, Nat.zero_le _, rfl, rfl, 0, rfl⟩
  case round =>
    obtain ⟨k, hk, rfl, rfl, hw⟩ := hrel
    rename_i wr
    by_cases hlt : k < n
    · have hl : ∀ m, (opLoad 25 (.pointer (some ⟨blk, k * 43 + 3, none⟩))).run Yba.prog (wr.drewN m) = .ok (.value (.agg (hashA (B k) (P k)))) (wr.drewN m) := by
        intro m
        obtain ⟨q, rfl⟩ := hw
        have := run_load25 ((w.drewN q).drewN m) blk (k * 43 + 3) (hashA (B k) (P k)).toList (fun j v hv => by simpa using hH k hlt j v hv) (by simp [hashA_size])
        simpa using this
      have hRk : wr.cell? ⟨blk, k * 43 + 39, none⟩ = some (.int .u32 (R k)) := by
        obtain ⟨q, rfl⟩ := hw; simpa using hR k hlt
      have HB : Hid (best B R (k + 1) = if B k = 0 then best B R k else match best B R k with
        | none => some k
        | some j => if R j < R k then some k else some j) := rfl
      by_cases hb : B k = 0
      · have hb' : (B k != 0) = false := by simpa using hb
        have HB2 : Hid (best B R (k + 1) = best B R k) := by have := HB.out; rw [if_pos hb] at this; exact this
        clear hb HB
        go_wp2
        go_quiet (fail)
        go_wp2
        go_roundw
        case rel => exact ⟨k + 1, by omega, by go_num, by rw [HB2.out], by obtain ⟨q, rfl⟩ := hw; exact ⟨_, by rw [World.drewN_drewN]⟩⟩
        case measure => simp [intOf]; omega
      · have hb' : (B k != 0) = true := by simpa using hb
        have HB1 : Hid (best B R (k + 1) = match best B R k with
          | none => some k
          | some j => if R j < R k then some k else some j) := by have := HB.out; rw [if_neg hb] at this; exact this
        clear hb HB
        cases hbest : best B R k with
        | none =>
          have HB2 : Hid (best B R (k + 1) = some k) := by have := HB1.out; rw [hbest] at this; exact this
          clear HB1 hbest
          unfold ptrOf
          go_wp2
          go_quiet (fail)
          go_wp2
          go_roundw
          case rel => exact ⟨k + 1, by omega, by go_num, by rw [HB2.out], by obtain ⟨q, rfl⟩ := hw; exact ⟨_, by rw [World.drewN_drewN]⟩⟩
          case measure => simp [intOf]; omega
        | some j =>
          have hj := best_lt B R k j hbest
          have hRj : wr.cell? ⟨blk, j * 43 + 39, none⟩ = some (.int .u32 (R j)) := by
            obtain ⟨q, rfl⟩ := hw; simpa using hR j (by omega)
          have HB2 : Hid (best B R (k + 1) = if R j < R k then some k else some j) := by have := HB1.out; rw [hbest] at this; exact this
          clear HB1 hbest
          unfold ptrOf
          by_cases hr : R j < R k
          · go_wp2
            go_quiet (fail)
            go_wp2
            go_roundw
            case rel => exact ⟨k + 1, by omega, by go_num, by rw [HB2.out, if_pos hr], by obtain ⟨q, rfl⟩ := hw; exact ⟨_, by rw [World.drewN_drewN]⟩⟩
            case measure => simp [intOf]; omega
          · go_wp2
            go_quiet (fail)
            go_wp2
            go_roundw
            case rel => exact ⟨k + 1, by omega, by go_num, by rw [HB2.out, if_neg (by omega)], by obtain ⟨q, rfl⟩ := hw; exact ⟨_, by rw [World.drewN_drewN]⟩⟩
            case measure => simp [intOf]; omega
    · have : k = n := by omega
      subst this
      go_wp2
      go_ret
      exact ⟨rfl, hw⟩

end Go.Proofs.Ybulkdvbe

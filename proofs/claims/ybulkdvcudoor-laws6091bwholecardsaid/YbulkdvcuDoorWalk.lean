/-
  Held.Code, the law's own table, and the law, walked.
-/
import Derived.Test.YbulkdvcuDoorRows
import Derived.WalkKit
import Derived.WalkSpells
import Derived.WalkLawsBesides
import Derived.Deep.QuietTactic
import Derived.BigQuiet
import Derived.Below
namespace Go.Proofs.YbulkdvcuDoor
open Go.RowKit

/-- The prefixes. -/
def pf : Nat → ByteArray
  | 0 => ⟨#[]⟩
  | 1 => ⟨#[102, 111, 114, 109, 101, 114, 45]⟩
  | _ => ⟨#[102, 117, 116, 117, 114, 101, 45]⟩
/-- The table in memory. -/
def Tab (w : World) : Prop := ∀ k, k < 3 → w.cell? ⟨0, k, none⟩ = some (.string (pf k))
theorem pf_size : ∀ k, (pf k).size ≤ 7
  | 0 => by decide
  | 1 => by decide
  | _ + 2 => by show (ByteArray.mk #[102, 117, 116, 117, 114, 101, 45]).size ≤ 7; decide

set_option maxHeartbeats 1000000 in
theorem pre_any (k : Nat) (hk : k < 3) (w : World) : Calls Ybad.prog 5 #[.int .i64 (k : Int)] w fun e w' => e = .returned (.string (pf k)) ∧ w' = w := by
  have : k = 0 ∨ k = 1 ∨ k = 2 := by omega
  rcases this with rfl | rfl | rfl
  all_goals
    go_enter Ybad.func5, Ybad.ntmps5
    go_wp2
    go_ret
    exact ⟨rfl, rfl⟩

theorem below_drewN {B : Nat} {a w : World} (h : Below B a w) (q : Nat) : Below B a (w.drewN q) := ⟨h.os, h.tape, h.output, h.size, h.block⟩
/-- What Code answers. -/
def code (k : Nat) (r v : ByteArray) : ByteArray := if v.size = 0 then pf k ++ r else pf k ++ r ++ ⟨#[58]⟩ ++ v

theorem toList_ne (v : ByteArray) (hv : ¬ v.size = 0) : v.toList.isEmpty = false := by
  rw [ByteArray.toList_eq]
  cases v with | mk d =>
    have h : d.size ≠ 0 := hv
    cases hd : d.toList with
    | nil => exact absurd (by rw [← Array.length_toList, hd]; rfl) h
    | cons a l => rfl
set_option maxHeartbeats 1000000 in
theorem code_any (k : Nat) (hk : k < 3) (r v : ByteArray) (hs : r.size + v.size ≤ 1048576) (w : World) (ht : Tab w) (h0 : 0 < w.heap.size) :
    Calls Ybad.prog 4 #[.agg #[.string r, .string v, .int .i64 (k : Int)]] w fun e w' => e = .returned (.string (code k r v)) ∧ Below w.heap.size w w' := by
  have e0 := ht k hk
  have hp := pf_size k
  have k0 : (0 : Int) ≤ (k : Int) := by omega
  have k1 : (k : Int) < 3 := by omega
  by_cases hv : v.size = 0
  · have hc : code k r v = pf k ++ r := by unfold code; rw [if_pos hv]
    have hve : v = ⟨#[]⟩ := by
      cases v with | mk d => simp [ByteArray.size] at hv; subst hv; rfl
    subst hve
    rw [hc]
    generalize hP : pf k = P at *
    go_enter Ybad.func4, Ybad.ntmps4
    go_wp2
    go_quiet (fail)
    go_wp2
    go_ret
    exact ⟨rfl, below_drewN ((Below.refl _ _).alloc (Nat.le_refl _) _) _⟩
  · have hc : code k r v = (pf k ++ r) ++ (⟨#[58]⟩ ++ v) := by unfold code; rw [if_neg hv, ByteArray.append_assoc]
    have hve : v.toList.isEmpty = false := toList_ne v hv
    rw [hc]
    generalize hP : pf k = P at *
    go_enter Ybad.func4, Ybad.ntmps4
    go_wp2
    go_quiet (fail)
    go_wp2
    go_ret
    exact ⟨rfl, below_drewN ((Below.refl _ _).alloc (Nat.le_refl _) _) _⟩

set_option maxHeartbeats 1000000 in
theorem law_big (r v : ByteArray) (u : Int) (w : World) (h1 : 1048576 < r.size + v.size) (h2 : r.size + v.size ≤ 9223372036854775807) :
    Calls Ybad.prog 3 #[.string r, .string v, .int .u64 u] w fun e w' => e = .returned (.bool true) ∧ Below w.heap.size w w' := by
  have m1 : (1048576 : Int) < (r.size : Int) + (v.size : Int) := by omega
  have m2 : (r.size : Int) + (v.size : Int) ≤ 9223372036854775807 := by omega
  go_enter Ybad.func3, Ybad.ntmps3
  go_wp2
  go_ret
  exact ⟨rfl, Below.refl _ _⟩

set_option maxHeartbeats 1000000 in
theorem law_any (r v : ByteArray) (u : Nat) (hu : u ≤ 18446744073709551615) (w : World) (ht : Tab w) (h0 : 0 < w.heap.size) (h1 : r.size + v.size ≤ 1048576) :
    Calls Ybad.prog 3 #[.string r, .string v, .int .u64 (u : Int)] w fun e w' => e = .returned (.bool true) ∧ Below w.heap.size w w' := by
  have m1 : ¬ (1048576 : Int) < (r.size : Int) + (v.size : Int) := by omega
  obtain ⟨k, Hk⟩ : ∃ k, Hid (k = u % 3) := ⟨_, rfl⟩
  have hk : k < 3 := by have := Hk.out; omega
  have p1 : (u : Int).tmod 3 = (k : Int) := by rw [Int.tmod_eq_emod_of_nonneg (by omega), Hk.out]; simp
  have p1' : (u : Int) % 3 = (k : Int) := by have := Hk.out; omega
  have k1 : (k : Int) < 3 := by omega
  have hp := pf_size k
  have hT : Tab (w.alloc (.cells #[.string r, .string v, .int .i64 (k : Int)] 26)) := fun j hj => by rw [World.cell?_alloc_lt _ _ _ h0]; exact ht j hj
  have HC := code_any k hk r v h1 _ hT (by simp)
  have HPx := fun W => pre_any k hk W
  have HB : Hid (∀ w1, Below (w.alloc (.cells #[.string r, .string v, .int .i64 (k : Int)] 26)).heap.size (w.alloc (.cells #[.string r, .string v, .int .i64 (k : Int)] 26)) w1 → w1.cell? ⟨w.heap.size, 0, none⟩ = some (.string r) ∧ w1.cell? ⟨w.heap.size, 1, none⟩ = some (.string v) ∧ w1.cell? ⟨w.heap.size, 2, none⟩ = some (.int .i64 (k : Int)) ∧ Hid (Below w.heap.size w w1)) := by
    intro w1 h
    refine ⟨(h.cell (p := ⟨w.heap.size, 0, none⟩) (by simp)).trans (by simp), (h.cell (p := ⟨w.heap.size, 1, none⟩) (by simp)).trans (by simp), (h.cell (p := ⟨w.heap.size, 2, none⟩) (by simp)).trans (by simp), ?_⟩
    exact ((Below.refl _ _).alloc (Nat.le_refl _) _).trans (h.mono (by simp))
  by_cases hv : v.size = 0
  · have hc : code k r v = pf k ++ r := by unfold code; rw [if_pos hv]
    have hv2 : ¬ 0 < v.size := by omega
    rw [hc] at HC
    have HC2 := fun _ : Unit => HC
    clear HC
    generalize hP : pf k = P at *
    go_enter Ybad.func3, Ybad.ntmps3
    go_wp2_with (first
      | (go_at_call 4; refine (HC2 ()).mono ?_; rintro e w1 ⟨rfl, hb1⟩; obtain ⟨c0, c1, c2, HB2⟩ := HB.out w1 hb1; clear HB hb1)
      | (go_at_call 5; refine (HPx _).mono ?_; rintro e w2 ⟨rfl, rfl⟩))
    go_ret
    exact ⟨rfl, HB2.out⟩
  · have hc : code k r v = pf k ++ r ++ ⟨#[58]⟩ ++ v := by unfold code; rw [if_neg hv]
    have hv2 : 0 < v.size := by omega
    rw [hc] at HC
    have HC2 := fun _ : Unit => HC
    clear HC
    generalize hP : pf k = P at *
    go_enter Ybad.func3, Ybad.ntmps3
    go_wp2_with (first
      | (go_at_call 4; refine (HC2 ()).mono ?_; rintro e w1 ⟨rfl, hb1⟩; obtain ⟨c0, c1, c2, HB2⟩ := HB.out w1 hb1; clear HB hb1)
      | (go_at_call 5; refine (HPx _).mono ?_; rintro e w2 ⟨rfl, rfl⟩))
    go_ret
    exact ⟨rfl, HB2.out⟩

end Go.Proofs.YbulkdvcuDoor

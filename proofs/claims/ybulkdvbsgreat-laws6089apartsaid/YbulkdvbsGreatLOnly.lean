/-
  rigorous: lastWriters.only, walked.
-/
import Derived.Test.YbulkdvbsGreatLast
namespace Go.Proofs.YbulkdvbsGreat
open Go.RowKit

set_option maxHeartbeats 8000000 in
set_option maxRecDepth 100000 in
/-- lastWriters.only, over one key: nobody else holds it. -/
theorem lwonly_any (LB LO HI m x tid : Nat) (own : Nat → Nat) (w : World) (h : LWt w LB LO HI m own) (hm : m ≤ 3) (hx : x < m) (hb : own x ≤ 3000) :
    Calls Ybaz.prog 46 #[.pointer (some ⟨LB, 0, none⟩), .int .i64 (tid : Int), .int .i64 (x : Int), .int .i64 ((x : Int) + 1)] w fun e w' => e = .returned (.bool (decide (own x = 0 ∨ own x = tid))) ∧ Keep (fun _ => False) w w' := by
  have hbl := heap_lt h.blk
  have e1 : (w.alloc (.cells #[.pointer (some ⟨LB, 0, none⟩)] 116)).heap.size = w.heap.size + 1 := World.size_alloc _ _
  have k1 := Keep.alloc (fun _ => False) w (.cells #[.pointer (some ⟨LB, 0, none⟩)] 116)
  have k2 := Keep.alloc (fun _ => False) (w.alloc (.cells #[.pointer (some ⟨LB, 0, none⟩)] 116)) (.cells #[.int .i64 9223372036854775807] 3)
  have k3 := Keep.alloc (fun _ => False) ((w.alloc (.cells #[.pointer (some ⟨LB, 0, none⟩)] 116)).alloc (.cells #[.int .i64 9223372036854775807] 3)) (.cells #[.int .i64 0] 3)
  have e2 : ((w.alloc (.cells #[.pointer (some ⟨LB, 0, none⟩)] 116)).alloc (.cells #[.int .i64 9223372036854775807] 3)).heap.size = w.heap.size + 2 := by rw [World.size_alloc, e1]
  have b1 := k3.at (k2.at (heap_alloc_new w (.cells #[.pointer (some ⟨LB, 0, none⟩)] 116)) id) id
  have b2 : (((w.alloc (.cells #[.pointer (some ⟨LB, 0, none⟩)] 116)).alloc (.cells #[.int .i64 9223372036854775807] 3)).alloc (.cells #[.int .i64 0] 3)).heap[w.heap.size + 1]? = some (.cells #[.int .i64 maxI] 3) := by
    have := heap_alloc_new (w.alloc (.cells #[.pointer (some ⟨LB, 0, none⟩)] 116)) (.cells #[.int .i64 9223372036854775807] 3)
    rw [e1] at this
    exact k3.at this id
  have b3 := heap_alloc_new ((w.alloc (.cells #[.pointer (some ⟨LB, 0, none⟩)] 116)).alloc (.cells #[.int .i64 9223372036854775807] 3)) (.cells #[.int .i64 0] 3)
  rw [e2] at b3
  have k := (k1.trans k2 (fun _ q => q.elim)).trans k3 (fun _ q => q.elim)
  have hL3 := h.keep k id id id
  have lts := h.lt
  have HK : Hid _ := k
  have HL3 : Hid _ := hL3
  have HB1 : Hid _ := b1
  have HB2 : Hid _ := b2
  have HB3 : Hid _ := b3
  clear k1 k2 k3 k hL3 b1 b2 b3 e1 e2 h
  go_enter Ybaz.func46, Ybaz.ntmps46
  go_upto_region 2 with fail
  generalize (((w.alloc (.cells #[.pointer (some ⟨LB, 0, none⟩)] 116)).alloc (.cells #[.int .i64 9223372036854775807] 3)).alloc (.cells #[.int .i64 0] 3)) = w3 at *
  generalize hbW : w.heap.size = bW at *
  have cW : w3.cell? ⟨bW, 0, none⟩ = some (.pointer (some ⟨LB, 0, none⟩)) := cell_of _ _ 0 _ _ HB1.out
  have c0 : w3.cell? ⟨LB, 0, none⟩ = some (.slice (some ⟨LO, 0, none⟩) (m + m) (m + m)) := cell_of _ _ 0 _ _ HL3.out.blk
  have m1 : (m : Int) ≤ 3 := by omega
  have d2 : ((m : Int) + (m : Int)).tdiv 2 = (m : Int) := by rw [Int.tdiv_eq_ediv_of_nonneg (by omega)]; omega
  have hmf : ∀ fn first cap w, (Instr.makeFunc fn first cap).run Ybaz.prog w = .ok (.func fn first cap) w := fun _ _ _ _ => rfl
  have HSG := fun (_ : Unit) => segments_one m x 106 #[.pointer (some ⟨bW + 1, 0, none⟩), .pointer (some ⟨bW, 0, none⟩), .pointer (some ⟨bW + 2, 0, none⟩)] w3 hx hm (fun w' => Hid (w'.heap[bW + 1]? = some (.cells #[.int .i64 (if own x = 0 then maxI else (own x : Int))] 3) ∧ w'.heap[bW + 2]? = some (.cells #[.int .i64 (own x : Int)] 3) ∧ Keep (fun b => b = bW + 1 ∨ b = bW + 2) w3 w')) cf106 (fun _ => only1_any (bW + 1) LB LO HI m x bW (bW + 2) own w3 HL3.out hm hx HB2.out HB1.out HB3.out (by omega) hb ⟨by omega, by omega, by omega, by omega⟩)
  go_upto_region 3 with (go_at_call 104; refine (HSG ()).mono ?_; clear HSG; rintro e w4 ⟨rfl, HE⟩)
  obtain ⟨b1, b2, k4⟩ := HE.out
  have HK4 : Hid (Keep (fun _ => False) w w4) := HK.out.trans k4 (fun b q => .inr (by omega))
  clear k4 HE HK HL3 HB1 HB2 HB3 cW c0
  by_cases h0 : own x = 0
  · rw [h0] at b1 b2
    have c1 : w4.cell? ⟨bW + 1, 0, none⟩ = some (.int .i64 9223372036854775807) := cell_of _ _ 0 _ _ b1
    have c2 : w4.cell? ⟨bW + 2, 0, none⟩ = some (.int .i64 0) := cell_of _ _ 0 _ _ b2
    clear b1 b2
    go_wp2
    go_ret
    exact ⟨by simp [h0], HK4.out⟩
  · rw [if_neg h0] at b1
    have c1 : w4.cell? ⟨bW + 1, 0, none⟩ = some (.int .i64 (own x : Int)) := cell_of _ _ 0 _ _ b1
    have c2 : w4.cell? ⟨bW + 2, 0, none⟩ = some (.int .i64 (own x : Int)) := cell_of _ _ 0 _ _ b2
    clear b1 b2
    have n1 : ((own x : Int) == 9223372036854775807) = false := by simp; omega
    have n2 : ((own x : Int) == 0) = false := by simp; omega
    by_cases h1 : own x = tid
    · rw [h1] at c1 c2 n1 n2
      go_wp2
      go_ret
      exact ⟨by simp [h1], HK4.out⟩
    · have n3 : ((own x : Int) == (tid : Int)) = false := by simp; omega
      go_wp2
      go_ret
      exact ⟨by simp [h0, h1], HK4.out⟩
set_option maxHeartbeats 8000000 in
set_option maxRecDepth 100000 in
/-- lastWriters.only, over no key. -/
theorem lwonly_none (LB LO HI m tid : Nat) (own : Nat → Nat) (w : World) (h : LWt w LB LO HI m own) (hm : m ≤ 3) :
    Calls Ybaz.prog 46 #[.pointer (some ⟨LB, 0, none⟩), .int .i64 (tid : Int), .int .i64 0, .int .i64 0] w fun e w' => e = .returned (.bool true) ∧ Keep (fun _ => False) w w' := by
  have hbl := heap_lt h.blk
  have e1 : (w.alloc (.cells #[.pointer (some ⟨LB, 0, none⟩)] 116)).heap.size = w.heap.size + 1 := World.size_alloc _ _
  have k1 := Keep.alloc (fun _ => False) w (.cells #[.pointer (some ⟨LB, 0, none⟩)] 116)
  have k2 := Keep.alloc (fun _ => False) (w.alloc (.cells #[.pointer (some ⟨LB, 0, none⟩)] 116)) (.cells #[.int .i64 9223372036854775807] 3)
  have k3 := Keep.alloc (fun _ => False) ((w.alloc (.cells #[.pointer (some ⟨LB, 0, none⟩)] 116)).alloc (.cells #[.int .i64 9223372036854775807] 3)) (.cells #[.int .i64 0] 3)
  have e2 : ((w.alloc (.cells #[.pointer (some ⟨LB, 0, none⟩)] 116)).alloc (.cells #[.int .i64 9223372036854775807] 3)).heap.size = w.heap.size + 2 := by rw [World.size_alloc, e1]
  have b1 := k3.at (k2.at (heap_alloc_new w (.cells #[.pointer (some ⟨LB, 0, none⟩)] 116)) id) id
  have b2 : (((w.alloc (.cells #[.pointer (some ⟨LB, 0, none⟩)] 116)).alloc (.cells #[.int .i64 9223372036854775807] 3)).alloc (.cells #[.int .i64 0] 3)).heap[w.heap.size + 1]? = some (.cells #[.int .i64 9223372036854775807] 3) := by
    have := heap_alloc_new (w.alloc (.cells #[.pointer (some ⟨LB, 0, none⟩)] 116)) (.cells #[.int .i64 9223372036854775807] 3)
    rw [e1] at this
    exact k3.at this id
  have b3 := heap_alloc_new ((w.alloc (.cells #[.pointer (some ⟨LB, 0, none⟩)] 116)).alloc (.cells #[.int .i64 9223372036854775807] 3)) (.cells #[.int .i64 0] 3)
  rw [e2] at b3
  have k := (k1.trans k2 (fun _ q => q.elim)).trans k3 (fun _ q => q.elim)
  have hL3 := h.keep k id id id
  have HK : Hid _ := k
  have HL3 : Hid _ := hL3
  have HB1 : Hid _ := b1
  have HB2 : Hid _ := b2
  have HB3 : Hid _ := b3
  clear k1 k2 k3 k hL3 b1 b2 b3 e1 e2 h
  go_enter Ybaz.func46, Ybaz.ntmps46
  go_upto_region 2 with fail
  generalize (((w.alloc (.cells #[.pointer (some ⟨LB, 0, none⟩)] 116)).alloc (.cells #[.int .i64 9223372036854775807] 3)).alloc (.cells #[.int .i64 0] 3)) = w3 at *
  generalize w.heap.size = bW at *
  have cW : w3.cell? ⟨bW, 0, none⟩ = some (.pointer (some ⟨LB, 0, none⟩)) := cell_of _ _ 0 _ _ HB1.out
  have c0 : w3.cell? ⟨LB, 0, none⟩ = some (.slice (some ⟨LO, 0, none⟩) (m + m) (m + m)) := cell_of _ _ 0 _ _ HL3.out.blk
  have m1 : (m : Int) ≤ 3 := by omega
  have d2 : ((m : Int) + (m : Int)).tdiv 2 = (m : Int) := by rw [Int.tdiv_eq_ediv_of_nonneg (by omega)]; omega
  have hmf : ∀ fn first cap w, (Instr.makeFunc fn first cap).run Ybaz.prog w = .ok (.func fn first cap) w := fun _ _ _ _ => rfl
  have HSG := fun (_ : Unit) (f : Value) => segments_none m 0 f w3 (Nat.zero_le _) hm
  go_upto_region 3 with (go_at_call 104; refine (HSG () _).mono ?_; clear HSG; rintro e w4 ⟨rfl, rfl⟩)
  have c1 : w4.cell? ⟨bW + 1, 0, none⟩ = some (.int .i64 9223372036854775807) := cell_of _ _ 0 _ _ HB2.out
  have c2 : w4.cell? ⟨bW + 2, 0, none⟩ = some (.int .i64 0) := cell_of _ _ 0 _ _ HB3.out
  clear HB1 HB2 HB3 HL3 cW c0
  go_wp2
  go_ret
  exact ⟨rfl, HK.out⟩
end Go.Proofs.YbulkdvbsGreat

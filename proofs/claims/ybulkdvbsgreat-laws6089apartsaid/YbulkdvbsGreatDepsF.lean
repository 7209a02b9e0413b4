/-
  conflictDependencies, walked: it makes its boxes.
-/
import Derived.Test.YbulkdvbsGreatDepsW
namespace Go.Proofs.YbulkdvbsGreat
open Go.RowKit

/-- The blocks of deps. -/
def dB (s SB : Nat) (b : Nat) : Prop := b = SB ∨ (s ≤ b ∧ b < s + 6)
/-- What conflictDependencies answers. -/
def RetDeps (w w' : World) (n keys SB NS sc : Nat) (su sl : Nat → Nat) (sk : Nat → Int) (e : Ending) : Prop := ∃ p1 p2 p3 p4 p5 p6 : Nat, e = .returned (.func (.func 54) #[] #[.pointer (some ⟨p1, 0, none⟩), .pointer (some ⟨p2, 0, none⟩), .pointer (some ⟨p3, 0, none⟩), .pointer (some ⟨p4, 0, none⟩), .pointer (some ⟨p5, 0, none⟩), .pointer (some ⟨p6, 0, none⟩)]) ∧ DEf n keys p1 p2 p3 p4 p5 p6 SB NS sc su sl sk none w' (dB w.heap.size SB) ∧ (p3 ≠ p4 ∧ p1 ≠ SB ∧ p3 ≠ SB ∧ p4 ≠ SB)
set_option maxHeartbeats 4000000 in
set_option maxRecDepth 100000 in
theorem deps17_any (n keys SB NS sc : Nat) (su sl : Nat → Nat) (sk : Nat → Int) (w : World) (h : SP w SB NS n keys su sl (fun i => sl i + 1) sk) :
    Calls Ybaz.prog 17 #[.slice (some ⟨SB, 0, none⟩) NS sc, .int .i64 (n : Int), .int .i64 (keys : Int)] w fun e w' => RetDeps w w' n keys SB NS sc su sl sk e ∧ Keep (fun _ => False) w w' := by
  obtain ⟨x5, k5, l5⟩ := mkb w (.slice (some ⟨SB, 0, none⟩) NS sc) 71
  obtain ⟨x2, k2, l2⟩ := mkb (w.alloc (.cells #[.slice (some ⟨SB, 0, none⟩) NS sc] 71)) (.int .i64 (n : Int)) 3
  obtain ⟨x6, k6, l6⟩ := mkb ((w.alloc (.cells #[.slice (some ⟨SB, 0, none⟩) NS sc] 71)).alloc (.cells #[.int .i64 (n : Int)] 3)) (.int .i64 (keys : Int)) 3
  obtain ⟨x1, k1, l1⟩ := mkb (((w.alloc (.cells #[.slice (some ⟨SB, 0, none⟩) NS sc] 71)).alloc (.cells #[.int .i64 (n : Int)] 3)).alloc (.cells #[.int .i64 (keys : Int)] 3)) (.pointer none) 93
  obtain ⟨x4, k4, l4⟩ := mkb ((((w.alloc (.cells #[.slice (some ⟨SB, 0, none⟩) NS sc] 71)).alloc (.cells #[.int .i64 (n : Int)] 3)).alloc (.cells #[.int .i64 (keys : Int)] 3)).alloc (.cells #[.pointer none] 93)) (.slice none 0 0) 95
  obtain ⟨x3, k3, l3⟩ := mkb (((((w.alloc (.cells #[.slice (some ⟨SB, 0, none⟩) NS sc] 71)).alloc (.cells #[.int .i64 (n : Int)] 3)).alloc (.cells #[.int .i64 (keys : Int)] 3)).alloc (.cells #[.pointer none] 93)).alloc (.cells #[.slice none 0 0] 95)) (.slice none 0 0) 95
  have s1 : (w.alloc (.cells #[.slice (some ⟨SB, 0, none⟩) NS sc] 71)).heap.size = w.heap.size + 1 := by rw [World.size_alloc]
  have s2 : ((w.alloc (.cells #[.slice (some ⟨SB, 0, none⟩) NS sc] 71)).alloc (.cells #[.int .i64 (n : Int)] 3)).heap.size = w.heap.size + 2 := by rw [World.size_alloc, s1]
  have s3 : (((w.alloc (.cells #[.slice (some ⟨SB, 0, none⟩) NS sc] 71)).alloc (.cells #[.int .i64 (n : Int)] 3)).alloc (.cells #[.int .i64 (keys : Int)] 3)).heap.size = w.heap.size + 3 := by rw [World.size_alloc, s2]
  have s4 : ((((w.alloc (.cells #[.slice (some ⟨SB, 0, none⟩) NS sc] 71)).alloc (.cells #[.int .i64 (n : Int)] 3)).alloc (.cells #[.int .i64 (keys : Int)] 3)).alloc (.cells #[.pointer none] 93)).heap.size = w.heap.size + 4 := by rw [World.size_alloc, s3]
  have s5 : (((((w.alloc (.cells #[.slice (some ⟨SB, 0, none⟩) NS sc] 71)).alloc (.cells #[.int .i64 (n : Int)] 3)).alloc (.cells #[.int .i64 (keys : Int)] 3)).alloc (.cells #[.pointer none] 93)).alloc (.cells #[.slice none 0 0] 95)).heap.size = w.heap.size + 5 := by rw [World.size_alloc, s4]
  have s6 : ((((((w.alloc (.cells #[.slice (some ⟨SB, 0, none⟩) NS sc] 71)).alloc (.cells #[.int .i64 (n : Int)] 3)).alloc (.cells #[.int .i64 (keys : Int)] 3)).alloc (.cells #[.pointer none] 93)).alloc (.cells #[.slice none 0 0] 95)).alloc (.cells #[.slice none 0 0] 95)).heap.size = w.heap.size + 6 := by rw [World.size_alloc, s5]
  rw [s1] at x2
  rw [s2] at x6
  rw [s3] at x1
  rw [s4] at x4
  rw [s5] at x3
  have q : ∀ {W W' : World}, Keep (fun _ => False) W W' → ∀ {b : Nat} {o : Obj}, W.heap[b]? = some o → W'.heap[b]? = some o := fun k _ _ hb => k.at hb id
  have x5' := q k3 (q k4 (q k1 (q k6 (q k2 x5))))
  have x2' := q k3 (q k4 (q k1 (q k6 x2)))
  have x6' := q k3 (q k4 (q k1 x6))
  have x1' := q k3 (q k4 x1)
  have x4' := q k3 x4
  have t : ∀ {A B C : World}, Keep (fun _ => False) A B → Keep (fun _ => False) B C → Keep (fun _ => False) A C := fun a b => a.trans b (fun _ q => q.elim)
  have kk := t k5 (t k2 (t k6 (t k1 (t k4 k3))))
  have hl := h.lt
  have HF : Hid (RetDeps w ((((((w.alloc (.cells #[.slice (some ⟨SB, 0, none⟩) NS sc] 71)).alloc (.cells #[.int .i64 (n : Int)] 3)).alloc (.cells #[.int .i64 (keys : Int)] 3)).alloc (.cells #[.pointer none] 93)).alloc (.cells #[.slice none 0 0] 95)).alloc (.cells #[.slice none 0 0] 95)) n keys SB NS sc su sl sk (.returned (.func (.func 54) #[] #[.pointer (some ⟨w.heap.size + 3, 0, none⟩), .pointer (some ⟨w.heap.size + 1, 0, none⟩), .pointer (some ⟨w.heap.size + 5, 0, none⟩), .pointer (some ⟨w.heap.size + 4, 0, none⟩), .pointer (some ⟨w.heap.size, 0, none⟩), .pointer (some ⟨w.heap.size + 2, 0, none⟩)])) ∧ Keep (fun _ => False) w ((((((w.alloc (.cells #[.slice (some ⟨SB, 0, none⟩) NS sc] 71)).alloc (.cells #[.int .i64 (n : Int)] 3)).alloc (.cells #[.int .i64 (keys : Int)] 3)).alloc (.cells #[.pointer none] 93)).alloc (.cells #[.slice none 0 0] 95)).alloc (.cells #[.slice none 0 0] 95))) := by
    refine ⟨⟨_, _, _, _, _, _, rfl, ⟨fun b hb => ?_, none, 0, 0, fun _ => 0, none, 0, 0, fun _ => 0, ⟨x1', x2', x3, x4', x5', x6', h.keep kk id, Vec.nil _ _ _ _, Vec.nil _ _ _ _, fun i hi => by omega, fun i hi => by omega, ⟨Nat.zero_le _, Nat.zero_le _⟩, fun b q => by simp at q, ?_, fun b q => by simp at q, fun b q => by simp at q, fun b q => by simp at q, fun b q => by simp at q⟩⟩, by omega, by omega, by omega, by omega⟩, kk⟩
    · rcases hb with q | q <;> omega
    · unfold dB; omega
  clear x5 x2 x6 x1 x4 x3 x5' x2' x6' x1' x4' kk q t k1 k2 k3 k4 k5 k6 l1 l2 l3 l4 l5 l6 s1 s2 s3 s4 s5 s6
  go_enter Ybaz.func17, Ybaz.ntmps17
  go_wp2
  go_ret
  exact HF.out
end Go.Proofs.YbulkdvbsGreat

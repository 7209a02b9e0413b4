/-
  slices.Grow at []int32 and []bool, walked: the old cells, then zeros.
-/
import Derived.Test.YbulkdvcgLive
import Derived.Lib.AppendZerosOnto
import Derived.Lib.SliceRun
namespace Go.Proofs.Ybulkdvcg
open Go.RowKit

theorem inf_of {t : TypeId} {z : Value} {s b : Nat} (h : (Yba.prog.info? t).map (fun i => (i.zero, i.size, i.bytes)) = some (some z, s, b)) :
    ∃ i, Yba.prog.info? t = some i ∧ i.zero = some z ∧ i.size = s ∧ i.bytes = b := by
  cases hi : Yba.prog.info? t with
  | none => rw [hi] at h; simp at h
  | some i => rw [hi] at h; simp at h; exact ⟨i, rfl, h.1, h.2.1, h.2.2⟩
theorem inf21 : ∃ i, Yba.prog.info? 21 = some i ∧ i.zero = some (.int .i32 0) ∧ i.size = 1 ∧ i.bytes = 4 := inf_of (by kernel_rfl)
theorem inf4 : ∃ i, Yba.prog.info? 4 = some i ∧ i.zero = some (.bool false) ∧ i.size = 1 ∧ i.bytes = 1 := inf_of (by kernel_rfl)
theorem inf3 : ∃ i, Yba.prog.info? 3 = some i ∧ i.zero = some (.int .i64 0) ∧ i.size = 1 ∧ i.bytes = 8 := inf_of (by kernel_rfl)

theorem zeros_at (z : Value) (n i : Nat) (hi : i < n) : (Builtin.zeroCells #[z] n)[i]? = some z := by
  simp [Builtin.zeroCells, hi, Nat.mod_one]
theorem zeros_size (z : Value) (n : Nat) : (Builtin.zeroCells #[z] n).size = n := by simp [Builtin.zeroCells]
theorem grown_at (cs : List Value) (z : Value) (c n k i : Nat) (hc : cs.length = c) (hcn : c ≤ n) (hi : i < n) :
    (cs.toArray ++ Builtin.zeroCells #[z] (n - c) ++ Builtin.zeroCells #[z] k)[i]? = some (if i < c then cs[i]?.getD z else z) := by
  by_cases h : i < c
  · rw [Array.getElem?_append_left (by simp [zeros_size]; omega), Array.getElem?_append_left (by simp; omega), if_pos h]
    simp [hc, h]
  · rw [Array.getElem?_append_left (by simp [zeros_size]; omega), Array.getElem?_append_right (by simp; omega), if_neg h]
    exact zeros_at z _ _ (by simp; omega)

/-- What comes of Grow: the block itself, or a new one. -/
def Grew (w w' : World) (b L : Nat) : Prop := (L = b ∧ w' = w) ∨ (L = w.heap.size ∧ ∃ o, w' = w.drew.alloc o)

theorem hold_run (w : World) (b c : Nat) (cs : List Value) (hl : cs.length = c) (hcs : ∀ j v, cs[j]? = some v → w.cell? ⟨b, j, none⟩ = some v) (s : Nat) (hs : s = 1) :
    (Builtin.firstCells s c (.slice (some ⟨b, 0, none⟩) c c)).run Yba.prog w.drew = .ok cs.toArray w.drew := by
  subst hs
  refine run_firstCells_some w.drew 1 c ⟨b, 0, none⟩ c c cs (by omega) (fun j v hj => ?_)
  have e : (⟨b, 0, none⟩ : Addr).add j = ⟨b, j, none⟩ := by unfold Addr.add; split <;> simp_all
  rw [e]; exact hcs j v hj

set_option maxHeartbeats 1000000 in
set_option maxRecDepth 100000 in
theorem grow32 (b c n : Nat) (f : Nat → Int) (w : World) (hc : c ≤ 2097152) (hn : n ≤ 2000000) (hr : Row32 w b c f) :
    Calls Yba.prog 20 #[.slice (some ⟨b, 0, none⟩) 0 c, .int .i64 n] w fun e w' => ∃ L G, e = .returned (.slice (some ⟨L, 0, none⟩) 0 G) ∧ n ≤ G ∧ G ≤ 9223372036854775807 ∧ Row32 w' L n (fun i => if i < c then f i else 0) ∧ Grew w w' b L := by
  have h1 : ¬ ((n : Int) < 0) := by omega
  have hb1 : (n : Int) ≤ 2000000 := by omega
  have hb2 : (c : Int) ≤ 2097152 := by omega
  by_cases hroom : n ≤ c
  · have h4 : ¬ (0 : Int) < (n : Int) - (c : Int) := by omega
    have HR : Hid (Row32 w b n (fun i => if i < c then f i else 0)) := ⟨fun i hi => by rw [if_pos (by omega)]; exact hr.cell i (by omega), hr.free⟩
    clear hr
    go_enter Yba.func20, Yba.ntmps20
    go_wp2
    go_ret
    exact ⟨b, c, rfl, hroom, by omega, HR.out, .inl ⟨rfl, rfl⟩⟩
  · obtain ⟨i, hi, hz, hs, hb⟩ := inf21
    have h4 : (0 : Int) < (n : Int) - (c : Int) := by omega
    obtain ⟨cs, hcl, hcs⟩ : ∃ cs : List Value, cs.length = c ∧ ∀ j, j < c → cs[j]? = some (.int .i32 (f j)) := ⟨(List.range c).map fun j => .int .i32 (f j), by simp, fun j hj => by simp [hj]⟩
    have hold := hold_run w b c cs hcl (fun j v hv => by
      have hj : j < c := by have := (List.getElem?_eq_some_iff.1 hv).1; omega
      rw [hcs j hj] at hv; rw [hr.cell j hj]; exact hv) i.size hs
    have hGn : n ≤ grownCap w n c 21 := grownCap_ge w _ _ _
    have hG63 : grownCap w n c 21 ≤ 9223372036854775807 := by
      have := grownCap_le_maxLen w n c 21 (by unfold maxLen; omega)
      unfold maxLen at this; omega
    have hrz : ∀ ty, (Builtin.append_ #[37, 3] ty #[.slice (some ⟨b, 0, none⟩) c c, .int .i64 ((n : Int) - (c : Int))]).run Yba.prog w =
        .ok (.slice (some ⟨w.heap.size, 0, none⟩) n (grownCap w n c 21)) (w.drew.alloc (.cells (cs.toArray ++ Builtin.zeroCells #[.int .i32 0] (n - c) ++ Builtin.zeroCells #[.int .i32 0] (grownCap w n c 21 - n)) 21)) := fun ty => by
      have h := Lib.run_append_grow_zeros w 37 3 ty 21 i _ .i64 .i64 Yba.underlying37 Yba.underlying3 hi hz (some ⟨b, 0, none⟩) c c cs hold (n - c) (by omega) (by omega) (by omega) (by omega) (by rw [hb]; omega) (by rw [show c + (n - c) = n by omega]; exact growslice_fits (by omega) (by rw [hb]; omega))
      rw [show c + (n - c) = n by omega] at h
      rw [show (n : Int) - (c : Int) = ((n - c : Nat) : Int) by omega]
      exact h
    have HR : Hid (Row32 (w.drew.alloc (.cells (cs.toArray ++ Builtin.zeroCells #[.int .i32 0] (n - c) ++ Builtin.zeroCells #[.int .i32 0] (grownCap w n c 21 - n)) 21)) w.heap.size n (fun i => if i < c then f i else 0)) := by
      refine ⟨fun i hi => ?_, fun i => World.frozen?_alloc_at _ _ _ _ rfl⟩
      refine (World.cell?_alloc_at (w := w.drew) _ _ _ _ rfl).trans ?_
      rw [grown_at cs _ c n _ i hcl (by omega) hi]
      by_cases hic : i < c
      · simp [hic, hcs i hic]
      · simp [hic]
    generalize cs.toArray ++ Builtin.zeroCells #[.int .i32 0] (n - c) ++ Builtin.zeroCells #[.int .i32 0] (grownCap w n c 21 - n) = C at *
    generalize grownCap w n c 21 = G at *
    clear hold hcs hr
    go_enter Yba.func20, Yba.ntmps20
    go_wp2_with (at_builtin; refine Lib.wpList_append_run _ rfl _ _ _ _ rfl _ _ rfl rfl _ _ (hrz _) ?_)
    go_ret
    exact ⟨w.heap.size, G, rfl, hGn, hG63, HR.out, .inr ⟨rfl, _, rfl⟩⟩

set_option maxHeartbeats 1000000 in
set_option maxRecDepth 100000 in
theorem growB (b c n : Nat) (f : Nat → Bool) (w : World) (hc : c ≤ 2097152) (hn : n ≤ 2000000) (hr : RowB w b c f) :
    Calls Yba.prog 19 #[.slice (some ⟨b, 0, none⟩) 0 c, .int .i64 n] w fun e w' => ∃ L G, e = .returned (.slice (some ⟨L, 0, none⟩) 0 G) ∧ n ≤ G ∧ G ≤ 9223372036854775807 ∧ (∃ g, RowB w' L n g) ∧ Grew w w' b L := by
  have h1 : ¬ ((n : Int) < 0) := by omega
  have hb1 : (n : Int) ≤ 2000000 := by omega
  have hb2 : (c : Int) ≤ 2097152 := by omega
  by_cases hroom : n ≤ c
  · have h4 : ¬ (0 : Int) < (n : Int) - (c : Int) := by omega
    have HR : Hid (RowB w b n (fun i => if i < c then f i else false)) := ⟨fun i hi => by rw [if_pos (by omega)]; exact hr.cell i (by omega), hr.free⟩
    clear hr
    go_enter Yba.func19, Yba.ntmps19
    go_wp2
    go_ret
    exact ⟨b, c, rfl, hroom, by omega, ⟨_, HR.out⟩, .inl ⟨rfl, rfl⟩⟩
  · obtain ⟨i, hi, hz, hs, hb⟩ := inf4
    have h4 : (0 : Int) < (n : Int) - (c : Int) := by omega
    obtain ⟨cs, hcl, hcs⟩ : ∃ cs : List Value, cs.length = c ∧ ∀ j, j < c → cs[j]? = some (.bool (f j)) := ⟨(List.range c).map fun j => .bool (f j), by simp, fun j hj => by simp [hj]⟩
    have hold := hold_run w b c cs hcl (fun j v hv => by
      have hj : j < c := by have := (List.getElem?_eq_some_iff.1 hv).1; omega
      rw [hcs j hj] at hv; rw [hr.cell j hj]; exact hv) i.size hs
    have hGn : n ≤ grownCap w n c 4 := grownCap_ge w _ _ _
    have hG63 : grownCap w n c 4 ≤ 9223372036854775807 := by
      have := grownCap_le_maxLen w n c 4 (by unfold maxLen; omega)
      unfold maxLen at this; omega
    have hrz : ∀ ty, (Builtin.append_ #[85, 3] ty #[.slice (some ⟨b, 0, none⟩) c c, .int .i64 ((n : Int) - (c : Int))]).run Yba.prog w =
        .ok (.slice (some ⟨w.heap.size, 0, none⟩) n (grownCap w n c 4)) (w.drew.alloc (.cells (cs.toArray ++ Builtin.zeroCells #[.bool false] (n - c) ++ Builtin.zeroCells #[.bool false] (grownCap w n c 4 - n)) 4)) := fun ty => by
      have h := Lib.run_append_grow_zeros w 85 3 ty 4 i _ .i64 .i64 Yba.underlying85 Yba.underlying3 hi hz (some ⟨b, 0, none⟩) c c cs hold (n - c) (by omega) (by omega) (by omega) (by omega) (by rw [hb]; omega) (by rw [show c + (n - c) = n by omega]; exact growslice_fits (by omega) (by rw [hb]; omega))
      rw [show c + (n - c) = n by omega] at h
      rw [show (n : Int) - (c : Int) = ((n - c : Nat) : Int) by omega]
      exact h
    have HR : Hid (RowB (w.drew.alloc (.cells (cs.toArray ++ Builtin.zeroCells #[.bool false] (n - c) ++ Builtin.zeroCells #[.bool false] (grownCap w n c 4 - n)) 4)) w.heap.size n (fun i => if i < c then f i else false)) := by
      refine ⟨fun i hi => ?_, fun i => World.frozen?_alloc_at _ _ _ _ rfl⟩
      refine (World.cell?_alloc_at (w := w.drew) _ _ _ _ rfl).trans ?_
      rw [grown_at cs _ c n _ i hcl (by omega) hi]
      by_cases hic : i < c
      · simp [hic, hcs i hic]
      · simp [hic]
    generalize cs.toArray ++ Builtin.zeroCells #[.bool false] (n - c) ++ Builtin.zeroCells #[.bool false] (grownCap w n c 4 - n) = C at *
    generalize grownCap w n c 4 = G at *
    clear hold hcs hr
    go_enter Yba.func19, Yba.ntmps19
    go_wp2_with (at_builtin; refine Lib.wpList_append_run _ rfl _ _ _ _ rfl _ _ rfl rfl _ _ (hrz _) ?_)
    go_ret
    exact ⟨w.heap.size, G, rfl, hGn, hG63, ⟨_, HR.out⟩, .inr ⟨rfl, _, rfl⟩⟩

end Go.Proofs.Ybulkdvcg

/-
  newGraph, walked.
-/
import Derived.Test.YbulkdvbsGreatVec
namespace Go.Proofs.YbulkdvbsGreat
open Go.RowKit

def vnil : Value := .slice none 0 0
/-- A graph's cells. -/
def gcells (n : Nat) (last added kinds gath first next kd ahead : Value) : Array Value := #[.int .i64 (n : Int), last, added, kinds, gath, first, next, kd, ahead]
def gn (u : Nat) : Nat := if u = 0 then 0 else 1

set_option maxHeartbeats 2000000 in
set_option maxRecDepth 100000 in
theorem addNodes_fresh (G n : Nat) (w : World) (hn : n ≤ 5) (hG : w.heap[G]? = some (.cells (gcells n vnil vnil vnil vnil vnil vnil vnil vnil) 201)) :
    Calls Ybaz.prog 107 #[.pointer (some ⟨G, 0, none⟩), .int .i64 (n : Int), .bool false] w fun e w' => e = .returned (.int .i64 0) ∧ ∃ la lc gt gc, w'.heap[G]? = some (.cells (gcells n (.slice la n lc) vnil vnil (.slice gt (gn n) gc) vnil vnil vnil vnil) 201) ∧
      Vec w' 21 1 la n lc (fun _ _ => .int .i32 (-1)) ∧ Vec w' 31 1 gt (gn n) gc (fun _ _ => .int .u64 0) ∧ Keep (fun b => b = G) w w' ∧ (∀ b, la = some ⟨b, 0, none⟩ → w.heap.size ≤ b) ∧ (∀ b, gt = some ⟨b, 0, none⟩ → w.heap.size ≤ b) := by
  have hn2 : (n : Int) ≤ 5 := by omega
  have hGl := heap_lt hG
  have c1 : w.cell? ⟨G, 1, none⟩ = some (.slice none 0 0) := cell_of w G 1 _ _ hG
  go_enter Ybaz.func107, Ybaz.ntmps107
  go_wp2
  go_loopw [8] (fun s wr => ∃ (u : Nat) (la : Option Addr) (lc : Nat) (gt : Option Addr) (gc : Nat), u ≤ n ∧ s = .int .i64 (u : Int) ∧ Hid (wr.heap[G]? = some (.cells (gcells n (.slice la u lc) vnil vnil (.slice gt (gn u) gc) vnil vnil vnil vnil) 201)) ∧
      Hid (Vec wr 21 1 la u lc (fun _ _ => .int .i32 (-1))) ∧ Hid (Vec wr 31 1 gt (gn u) gc (fun _ _ => .int .u64 0)) ∧ Hid (Keep (fun b => b = G) w wr) ∧ Hid (∀ b, la = some ⟨b, 0, none⟩ → w.heap.size ≤ b) ∧ Hid (∀ b, gt = some ⟨b, 0, none⟩ → w.heap.size ≤ b)) (fun s _ => n - (intOf s).toNat)
  case atStart => exact ⟨0, none, 0, none, 0, Nat.zero_le _, rfl, hG, Vec.nil _ _ _ _, Vec.nil _ _ _ _, Keep.refl _ _, nofun, nofun⟩
  case round =>
    clear c1
    obtain ⟨u, la, lc, gt, gc, hu, rfl, HG, HL, HV, HK, Hla, Hgt⟩ := hrel
    by_cases hlt : u < n
    · have u1 : (u : Int) < (n : Int) := by omega
      have c1 : wr.cell? ⟨G, 1, none⟩ = some (.slice la u lc) := cell_of wr G 1 _ _ HG.out
      have hsz := HK.out.size
      have hnla : ¬ la = some ⟨G, 0, none⟩ := fun hb => by have := Hla.out G hb; omega
      have hngt : ¬ gt = some ⟨G, 0, none⟩ := fun hb => by have := Hgt.out G hb; omega
      have hv1 := HL.out.alloc (Obj.cells #[.int .i32 (-1)] 21)
      have hu9 : u ≤ 100000000 := by omega
      have uw : IntKind.i64.wrap ((u : Int) + 1) = (u : Int) + 1 := by rw [IntKind.wrap_i64]; omega
      go_upto_region 8 with (first
        | (at_builtin; refine wpList_push (wr.alloc (Obj.cells #[.int .i32 (-1)] 21)) rfl _ _ 95 rfl 21 1 4 _ Ybaz.underlying95 inf21 rfl Nat.one_pos (by decide) la u lc (fun _ _ => .int .i32 (-1)) rfl hv1 ⟨wr.heap.size, 0, none⟩ 1 rfl (fun _ => .int .i32 (-1)) (new1 wr _ 21) (fun _ _ => rfl) hu9 ?_; intro g cap w2 hv2 hk2 hg2 hl2; have hG2 := hk2.at (heap_grow _ HG.out) hnla; have c2 := cell_of w2 G 1 _ _ hG2; have z2 := free_of w2 G 1 _ _ hG2; clear hv1))
      obtain ⟨hG3, hv3, hk3, hgG, hgw⟩ := field_push (i := 1) HG.out hv2 hk2 hg2 hnla
      have hg3 := HV.out.keep hk3 (fun b hb h => by
        rcases h with h | h
        · subst h; exact hngt hb
        · exact HV.out.apart HL.out (by decide) hb h)
      generalize w2.setCell ⟨G, 1, none⟩ (.slice (some ⟨g, 0, none⟩) (u + 1) cap) = w3 at *
      have HG3 : Hid (w3.heap[G]? = some (.cells (gcells n (.slice (some ⟨g, 0, none⟩) (u + 1) cap) vnil vnil (.slice gt (gn u) gc) vnil vnil vnil vnil) 201)) := hG3
      have HV3 : Hid (Vec w3 21 1 (some ⟨g, 0, none⟩) (u + 1) cap (fun _ _ => .int .i32 (-1))) := hv3.congr Nat.one_pos (fun i c _ _ => by simp [push])
      have HT3 : Hid _ := hg3
      have HK3 : Hid (Keep (fun b => b = G) w w3) := HK.out.trans hk3 (fun b h => by
        rcases h with h | h
        · exact .inl h
        · exact .inr (Hla.out b h))
      have Hg3 : Hid (∀ b, some (⟨g, 0, none⟩ : Addr) = some ⟨b, 0, none⟩ → w.heap.size ≤ b) := fun b hb => by
        injection hb with hb; injection hb with hb; subst hb
        rcases hgw with h | h
        · exact Hla.out _ h
        · omega
      have hs3 := HK3.out.size
      clear hG3 hv3 hg3 hk3 hG2 c2 z2 hv2 hk2 HG HL HV HK c1 hG
      by_cases hu0 : u = 0
      · subst hu0
        have c4 : w3.cell? ⟨G, 4, none⟩ = some (.slice gt 0 gc) := cell_of w3 G 4 _ _ HG3.out
        have hv1 := HT3.out.alloc (Obj.cells #[.int .u64 0] 31)
        go_upto_region 10 with (first
          | (at_builtin; refine wpList_push (w3.alloc (Obj.cells #[.int .u64 0] 31)) rfl _ _ 38 rfl 31 1 8 _ Ybaz.underlying38 inf31 rfl Nat.one_pos (by decide) gt 0 gc (fun _ _ => .int .u64 0) rfl hv1 ⟨w3.heap.size, 0, none⟩ 1 rfl (fun _ => .int .u64 0) (new1 w3 _ 31) (fun _ _ => rfl) hu9 ?_; intro g2 cap2 w4 hv4 hk4 hg4 hl4; have hG4 := hk4.at (heap_grow _ HG3.out) hngt; have c5 := cell_of w4 G 4 _ _ hG4; have z5 := free_of w4 G 4 _ _ hG4; clear hv1))
        obtain ⟨hG5, hv5, hk5, hgG5, hgw5⟩ := field_push (i := 4) HG3.out hv4 hk4 hg4 hngt
        have hL5 := HV3.out.keep hk5 (fun b hb h => by
          rcases h with h | h
          · subst h; injection hb with hb; injection hb with hb; exact hgG hb
          · exact HV3.out.apart HT3.out (by decide) hb h)
        generalize w4.setCell ⟨G, 4, none⟩ (.slice (some ⟨g2, 0, none⟩) (0 + 1) cap2) = w5 at *
        have HK5 : Hid (Keep (fun b => b = G) w w5) := HK3.out.trans hk5 (fun b h => by
          rcases h with h | h
          · exact .inl h
          · exact .inr (Hgt.out b h))
        have HG5 : Hid _ := hG5
        have HV5 : Hid _ := hv5.congr (g := fun _ _ => .int .u64 0) Nat.one_pos (fun i c _ _ => by simp [push])
        have HL5 : Hid _ := hL5
        clear hG5 hv5 hk5 hL5 hG4 c5 z5 hv4 hk4 HG3 HV3 HT3 c4
        go_wp2
        go_roundw
        case rel =>
          refine ⟨1, some ⟨g, 0, none⟩, cap, some ⟨g2, 0, none⟩, cap2, by omega, by go_num, HG5, HL5, HV5, HK5, Hg3, fun b hb => ?_⟩
          injection hb with hb; injection hb with hb; subst hb
          rcases hgw5 with h | h
          · exact Hgt.out _ h
          · omega
        case measure => simp [intOf]; omega
      · have hm : ((u : Int).tmod 64 == 0) = false := by
          have : (u : Int).tmod 64 = u := by rw [Int.tmod_eq_emod_of_nonneg (by omega)]; omega
          rw [this]; simp; omega
        have hm2 : ¬ (u : Int).tmod 64 = 0 := by
          have : (u : Int).tmod 64 = u := by rw [Int.tmod_eq_emod_of_nonneg (by omega)]; omega
          omega
        have hgu : gn u = gn (u + 1) := by simp [gn, hu0]
        rw [hgu] at HG3 HT3
        go_wp2
        go_roundw
        case rel => exact ⟨u + 1, some ⟨g, 0, none⟩, cap, gt, gc, by omega, by go_num, HG3, HV3, HT3, HK3, Hg3, Hgt⟩
        case measure => simp [intOf]; omega
    · have e : n = u := by omega
      subst e
      go_wp2
      go_ret
      exact ⟨rfl, la, lc, gt, gc, HG.out, HL.out, HV.out, HK.out, Hla.out, Hgt.out⟩

set_option maxHeartbeats 2000000 in
set_option maxRecDepth 100000 in
theorem newGraph_any (n : Nat) (w : World) (hn : n ≤ 5) :
    Calls Ybaz.prog 49 #[.int .i64 (n : Int)] w fun e w' => ∃ G, e = .returned (.pointer (some ⟨G, 0, none⟩)) ∧ ∃ la lc gt gc, w'.heap[G]? = some (.cells (gcells n (.slice la n lc) vnil vnil (.slice gt (gn n) gc) vnil vnil vnil vnil) 201) ∧
      Vec w' 21 1 la n lc (fun _ _ => .int .i32 (-1)) ∧ Vec w' 31 1 gt (gn n) gc (fun _ _ => .int .u64 0) ∧ Keep (fun _ => False) w w' ∧ w.heap.size ≤ G ∧ (∀ b, la = some ⟨b, 0, none⟩ → w.heap.size ≤ b) ∧ (∀ b, gt = some ⟨b, 0, none⟩ → w.heap.size ≤ b) := by
  have HA := fun _ : Unit => addNodes_fresh w.heap.size n (w.alloc (.cells (gcells n vnil vnil vnil vnil vnil vnil vnil vnil) 201)) hn (heap_alloc_new _ _)
  go_enter Ybaz.func49, Ybaz.ntmps49
  go_wp2_with (go_at_call 107; refine (HA ()).mono ?_; rintro e w2 ⟨rfl, la, lc, gt, gc, h1, h2, h3, h4, h5, h6⟩)
  go_ret
  have h5' : ∀ b, la = some ⟨b, 0, none⟩ → w.heap.size ≤ b := fun b hb => by have := h5 b hb; simp at this; omega
  have h6' : ∀ b, gt = some ⟨b, 0, none⟩ → w.heap.size ≤ b := fun b hb => by have := h6 b hb; simp at this; omega
  exact ⟨w.heap.size, rfl, la, lc, gt, gc, h1, h2, h3, (Keep.alloc (fun _ => False) w _).trans h4 (fun b hb => .inr (by omega)), Nat.le_refl _, h5', h6'⟩
end Go.Proofs.YbulkdvbsGreat

/-
  singleVersionReads: readOf, keyAt's look-up, slices.Backward of int32, walked.
-/
import Derived.Test.YbulkdvbsGreatSing
import Derived.Test.YbulkdvbsGreatBack
import Derived.Deep.RegionHeld3
import Derived.BigQuiet
namespace Go.Proofs.YbulkdvbsGreat
open Go.RowKit Go.Shelf

theorem cell_grow {W : World} {a : Addr} {v : Value} (o : Obj) (h : W.drew.cell? a = some v) : (W.alloc o).drew.cell? a = some v := by
  have hl : a.block < W.heap.size := by
    by_cases q : a.block < W.heap.size
    · exact q
    · have h' : W.cell? a = some v := h
      unfold World.cell? at h'
      rw [Array.getElem?_eq_none (by omega)] at h'
      simp at h'
  exact ((Keep.alloc (fun _ => False) W o).cell a hl id).trans h
theorem keep_grow {w W : World} (o : Obj) (h : Hid (Keep (fun _ => False) w W.drew)) : Hid (Keep (fun _ => False) w (W.alloc o).drew) := by
  have h' : Keep (fun _ => False) w W := ⟨h.out.os, h.out.tape, h.out.output, h.out.size, h.out.block⟩
  exact (h'.trans (Keep.alloc (fun _ => False) W o) (fun _ q => q.elim)).drew
/-- A pointer. -/
def RetPt (e : Ending) : Prop := ∃ g : Nat, e = .returned (.pointer (some ⟨g, 0, none⟩))
set_option maxHeartbeats 8000000 in
set_option maxRecDepth 100000 in
theorem readOf_any (SS : Nat → Prop) (w1 : World) (B3 B4 B5 BF V30 V31 V32 V33 OB M oc : Nat) (kd tx ky : Nat → Nat) (EM en FA : Nat) (fb : Nat → Bool) (KS NK : Nat) (wt : Nat → Prop) (num : Nat → Nat) (sx : Nat → ByteArray) (mb : Nat) (sa : Option Addr) (sc mn PB GM TA TC OV OC B gn x : Nat) (cls ln : Nat → Nat) (wa : Nat → Option Addr) (wc : Nat → Nat) (wv : Nat → Nat → Nat) (c1 c2 : Nat → Bool) (w : World)
    (hse : SE SS w1 B3 B4 B5 BF V30 V31 V32 V33 OB M oc kd tx ky EM en FA fb KS NK wt num sx mb sa sc mn PB GM TA OV) (h : SW SS w1 PB GM TA TC OV OC NK M cls ln wa wc wv gn c1 c2 w) (hB : ∀ x, x < NK → ln x ≤ B) (hB2 : B ≤ 100000) (hx : x < NK) (h0 : 0 < ln x) (k : Int) (t : Int) (s1 s2 : ByteArray) (vb : Bool) (ver : Int) :
    Calls Ybaz.prog 125 #[.agg #[.int .u8 k, .int .u64 t, .string s1, .string s2, .bool vb, .int .u64 ver, .slice none 0 0], .int .i64 (x : Int), .pointer (some ⟨V30, 0, none⟩), .pointer (some ⟨B5, 0, none⟩), .pointer (some ⟨B3, 0, none⟩)] w fun e w' => RetPt e ∧ Keep (fun _ => False) w w' := by
  have hs := hse.keep h.k
  have hnk : NK ≤ 3 := hs.ks.nk
  have hM := hs.op.hM
  have hBx := hB x hx
  have x1 : (x : Int) < (NK : Int) := by omega
  have x2 : (x : Int).toNat = x := by omega
  have x3 : (NK : Int) ≤ 3 := by omega
  obtain ⟨g, hag, hgl, hrow⟩ := (h.vec x hx).row h0
  obtain ⟨p, hp⟩ : ∃ p, p = ln x - 1 := ⟨_, rfl⟩
  have hqM := h.lt x p hx (by omega)
  have eg := hrow.cell p (by omega)
  obtain ⟨q, hq⟩ : ∃ q, q = wv x p := ⟨_, rfl⟩
  rw [← hq] at eg hqM
  obtain ⟨gs, hgs, hgsl, hrs⟩ := hs.ks.row (by omega)
  subst hgs
  have es := hrs.cell x hx
  have et := (hs.op.cell q hqM).2.1
  have cp : w.cell? ⟨PB, x, none⟩ = some (.slice (wa x) (ln x) (wc x)) := h.row.cell x hx
  rw [hag] at cp
  obtain ⟨L, hL⟩ : ∃ L, L = ln x := ⟨_, rfl⟩
  obtain ⟨c, hc⟩ : ∃ c, c = wc x := ⟨_, rfl⟩
  rw [← hL, ← hc] at cp
  rw [← hL] at hp h0 hBx
  have ka := Keep.alloc (fun _ => False) w (.cells #[.int .u8 k, .int .u64 t, .string s1, .string s2, .bool vb, .int .u64 ver, .slice none 0 0] 34)
  have hP : PB < w.heap.size := h.new PB (by rw [h.cP]; omega)
  have c30 := (ka.cell ⟨V30, 0, none⟩ (heap_lt hs.v30) id).trans (cell_of _ _ 0 _ _ hs.v30)
  have c5 := (ka.cell ⟨B5, 0, none⟩ (heap_lt hs.b5) id).trans (cell_of _ _ 0 _ _ hs.b5)
  have c3 := (ka.cell ⟨B3, 0, none⟩ (heap_lt hs.b3) id).trans (cell_of _ _ 0 _ _ hs.b3)
  have ck := (ka.cell ⟨KS, 1, none⟩ (heap_lt hs.ks.blk) id).trans (cell_of _ _ 1 _ _ hs.ks.blk)
  have cp2 := (ka.cell ⟨PB, x, none⟩ hP id).trans cp
  have eg2 := (ka.cell ⟨g, p, none⟩ hgl id).trans eg
  have es2 := (ka.cell ⟨gs, x, none⟩ hgsl id).trans es
  have et2 := (ka.cell ⟨OB, q * 7 + 1, none⟩ hs.op.lt id).trans et
  simp only [List.getElem?_toArray, List.getElem?_cons_zero, List.getElem?_cons_succ] at c30 c5 c3 ck
  have HK : Hid _ := ka
  have l1 : (0 : Int) < (L : Int) := by omega
  have l2 : (L : Int) - 1 = (p : Int) := by omega
  have l3 : (p : Int) < (L : Int) := by omega
  have l4 : (p : Int).toNat = p := by omega
  have l5 : (L : Int) ≤ 100000 := by omega
  have pw : IntKind.i64.wrap (p : Int) = (p : Int) := by unfold IntKind.wrap; simp [IntKind.bits, IntKind.signed]; omega
  have q1 : (q : Int) < (M : Int) := by omega
  have q2 : (q : Int).toNat = q := by omega
  have q3 : (M : Int) ≤ 2000 := by omega
  clear hs h hse hB hrow hp hq hrs ka hL hc cp eg es et hgsl hag
  go_enter Ybaz.func125, Ybaz.ntmps125
  go_upto_region 2 with fail
  have b0 := heap_alloc_new w (.cells #[.int .u8 k, .int .u64 t, .string s1, .string s2, .bool vb, .int .u64 ver, .slice none 0 0] 34)
  have a1 : (w.alloc (.cells #[.int .u8 k, .int .u64 t, .string s1, .string s2, .bool vb, .int .u64 ver, .slice none 0 0] 34)).cell? ⟨w.heap.size, 1, none⟩ = some (.int .u64 t) := cell_of _ _ 1 _ _ b0
  clear b0 c30 cp2
  generalize (w.alloc (.cells #[.int .u8 k, .int .u64 t, .string s1, .string s2, .bool vb, .int .u64 ver, .slice none 0 0] 34)) = w2 at *
  generalize w.heap.size = bO at *
  have h0 : w2.drew.cell? ⟨bO, 1, none⟩ = some (.int .u64 t) ∧ w2.drew.cell? ⟨B5, 0, none⟩ = some (.pointer (some ⟨KS, 0, none⟩)) ∧ w2.drew.cell? ⟨KS, 1, none⟩ = some (.slice (some ⟨gs, 0, none⟩) NK sc) ∧ w2.drew.cell? ⟨gs, x, none⟩ = some (.string (sx x)) ∧ w2.drew.cell? ⟨B3, 0, none⟩ = some (.slice (some ⟨OB, 0, none⟩) M oc) ∧ w2.drew.cell? ⟨g, p, none⟩ = some (.int .i32 (q : Int)) ∧ w2.drew.cell? ⟨OB, q * 7 + 1, none⟩ = some (.int .u64 (tx q : Int)) ∧ Hid (Keep (fun _ => False) w w2.drew) := ⟨a1, c5, ck, es2, c3, eg2, et2, HK.out.drew⟩
  clear a1 c5 ck es2 c3 eg2 et2
  go_region_held3 (fun w' => w'.cell? ⟨bO, 1, none⟩ = some (.int .u64 t) ∧ w'.cell? ⟨B5, 0, none⟩ = some (.pointer (some ⟨KS, 0, none⟩)) ∧ w'.cell? ⟨KS, 1, none⟩ = some (.slice (some ⟨gs, 0, none⟩) NK sc) ∧ w'.cell? ⟨gs, x, none⟩ = some (.string (sx x)) ∧ w'.cell? ⟨B3, 0, none⟩ = some (.slice (some ⟨OB, 0, none⟩) M oc) ∧ w'.cell? ⟨g, p, none⟩ = some (.int .i32 (q : Int)) ∧ w'.cell? ⟨OB, q * 7 + 1, none⟩ = some (.int .u64 (tx q : Int)) ∧ Hid (Keep (fun _ => False) w w')) (first | assumption | exact h0 | (go_split_ands; refine ⟨?_, ?_, ?_, ?_, ?_, ?_, ?_, ?_⟩ <;> first | assumption | exact cell_grow _ (by assumption) | exact keep_grow _ (by assumption))) (fail)
  go_wp2
  go_ret
  exact ⟨⟨_, rfl⟩, (HK.out.trans (Keep.alloc (fun _ => False) w2 _) (fun _ q => q.elim)).drew⟩
set_option maxHeartbeats 2000000 in
set_option maxRecDepth 100000 in
/-- The key of a write. -/
theorem keyAt1 (B8 KA M i ki : Nat) (w : World) (h : w.heap[B8]? = some (.cells #[.slice (some ⟨KA, 0, none⟩) M M] 95)) (hM : M ≤ 2000) (hi : i < M) (hk : ki ≤ 3) (hc : w.cell? ⟨KA, i, none⟩ = some (.int .i32 (ki : Int))) :
    Calls Ybaz.prog 120 (#[.int .i32 (i : Int)] ++ #[.pointer (some ⟨B8, 0, none⟩)]) w fun e w' => e = .returned (.int .i64 (ki : Int)) ∧ Keep (fun _ => False) w w' := by
  have c8 : w.cell? ⟨B8, 0, none⟩ = some (.slice (some ⟨KA, 0, none⟩) M M) := cell_of _ _ 0 _ _ h
  have i1 : (i : Int) < (M : Int) := by omega
  have i2 : (i : Int).toNat = i := by omega
  have i3 : (M : Int) ≤ 2000 := by omega
  have i4 : (ki : Int) ≤ 3 := by omega
  clear h
  show Calls Ybaz.prog 120 #[.int .i32 (i : Int), .pointer (some ⟨B8, 0, none⟩)] w _
  go_enter Ybaz.func120, Ybaz.ntmps120
  go_wp2
  go_ret
  exact ⟨by simp, Keep.refl _ _⟩
attribute [local go_sem] Oper.semAt_some
set_option maxRecDepth 100000 in
set_option maxHeartbeats 2000000 in
theorem back188_in (n : Nat) (hn : 1 ≤ n) (l bS SO o NS sc : Nat) (a : Option Addr) (sv : Nat → Int) (hNS : NS ≤ 2000) (ha : 0 < NS → a = some ⟨SO, o, none⟩) (J Jx : List (_root_.Fin NS) → World → Prop)
    (hY : ∀ pre (x : _root_.Fin NS) W, J pre W → pre.length < NS → YieldAt Fence.wide (n - 1) Ybaz.prog l #[.int .i64 (x.1 : Int), .int .i32 (sv x.1)] W fun e W' =>
      (e = .returned (.bool true) ∧ J (pre ++ [x]) W' ∧ Kp2 bS SO W W') ∨ (e = .returned (.bool false) ∧ Jx (pre ++ [x]) W'))
    (W : World) (hbS : W.cell? ⟨bS, 0, none⟩ = some (.slice a NS sc)) (hc : ∀ j, j < NS → W.cell? ⟨SO, o + j, none⟩ = some (.int .i32 (sv j))) (h0 : J [] W) :
    CallsIn Fence.wide n Ybaz.prog 188 #[.func (.yield l) #[] #[], .pointer (some ⟨bS, 0, none⟩)] W fun e W' => (∃ v, e = .returned v) ∧
      ((∃ ys, True ∧ J ys W') ∨ (∃ pre, True ∧ Jx pre W')) := by
  have n2 : (NS : Int) ≤ 2000 := by omega
  refine callsIn_of_wp Ybaz.func188 rfl trivial ?_ rfl
  simp only [Ybaz.ntmps188, List.size_toArray, List.length_cons, List.length_nil, Nat.reduceAdd, Nat.reduceSub, Array.replicate_succ, Array.replicate_zero, List.push_toArray, List.append_toArray, List.nil_append, List.cons_append]
  gi_wp2
  gi_loopw [3] (fun i wr => ∃ (k : Nat) (pre : List (_root_.Fin NS)), k ≤ NS ∧ pre.length = NS - k ∧ i = .int .i64 ((k : Int) - 1) ∧ J pre wr ∧ Kp2 bS SO W wr)
    (fun i _ => (intOf i + 1).toNat)
  case atStart => exact ⟨NS, [], Nat.le_refl _, by simp, by simp, h0, rfl, rfl⟩
  case round =>
    obtain ⟨k, pre, hk, hp, rfl, hJs, hnx⟩ := hrel
    have hcb : wr.cell? ⟨bS, 0, none⟩ = some (.slice a NS sc) := (World.cell?_of_block (a := ⟨bS, 0, none⟩) hnx.1).trans hbS
    cases k with
    | zero =>
      gi_wp2
      go_end0
      exact ⟨⟨_, rfl⟩, .inl ⟨_, trivial, hJs⟩⟩
    | succ j =>
      have jc : ((j + 1 : Nat) : Int) - 1 = (j : Int) := by omega
      rw [jc]
      have c0' := (World.cell?_of_block (a := ⟨SO, o + j, none⟩) hnx.2).trans (hc j (by omega))
      have hj1 : (j : Int) < (NS : Int) := by omega
      have j2 : (j : Int).toNat = j := by omega
      have ha' := ha (by omega)
      subst ha'
      obtain ⟨fn, tmps, assign, body, hy, hR⟩ := hY pre ⟨j, by omega⟩ wr hJs (by omega)
      dsimp only at hy
      gi_wp2
      refine hR.mono ?_
      rintro e W3 (⟨rfl, hJ3, hk3⟩ | ⟨rfl, hJx3⟩)
      · gi_wp2
        go_roundw
        case rel => exact ⟨j, _, by omega, by simp; omega, by go_num, hJ3, hnx.trans hk3⟩
        case measure => simp [intOf]
      · gi_wp2
        refine bodyPost_ret (results_none rfl _ _ _) rfl ?_
        exact ⟨⟨_, rfl⟩, .inr ⟨_, trivial, hJx3⟩⟩
theorem back188_stops (n : Nat) (hn : 1 ≤ n) (bS SO o NS sc : Nat) (a : Option Addr) (sv : Nat → Int) (hNS : NS ≤ 2000) (ha : 0 < NS → a = some ⟨SO, o, none⟩) (w : World) (hb : bS < w.heap.size) (hs : SO < w.heap.size) (hbS : w.cell? ⟨bS, 0, none⟩ = some (.slice a NS sc)) (hc : ∀ j, j < NS → w.cell? ⟨SO, o + j, none⟩ = some (.int .i32 (sv j))) :
    SeqStopsK Fence.wide n Ybaz.prog 188 #[.pointer (some ⟨bS, 0, none⟩)] (fun x : _root_.Fin NS => #[.int .i64 (x.1 : Int), .int .i32 (sv x.1)]) (Kp2 bS SO) (fun _ => True) (fun _ => True) NS w := fun l J Jx W hW _ _ hY h0 =>
  back188_in n hn l bS SO o NS sc a sv hNS ha J Jx hY W ((hW.cell (p := ⟨bS, 0, none⟩) hb).trans hbS)
    (fun j hj => (hW.cell (p := ⟨SO, o + j, none⟩) hs).trans (hc j hj)) h0
set_option maxHeartbeats 1000000 in
set_option maxRecDepth 100000 in
theorem backward121 (a : Option Addr) (n c : Nat) (w : World) :
    Calls Ybaz.prog 121 #[.slice a n c] w fun e w' => e = .returned (.func (.func 188) #[] #[.pointer (some ⟨w.heap.size, 0, none⟩)]) ∧ w' = w.alloc (.cells #[.slice a n c] 95) := by
  have hmf : ∀ fn first cap w, (Instr.makeFunc fn first cap).run Ybaz.prog w = .ok (.func fn first cap) w := fun _ _ _ _ => rfl
  go_enter Ybaz.func121, Ybaz.ntmps121
  go_wp2
  go_ret
  exact ⟨rfl, rfl⟩
end Go.Proofs.YbulkdvbsGreat

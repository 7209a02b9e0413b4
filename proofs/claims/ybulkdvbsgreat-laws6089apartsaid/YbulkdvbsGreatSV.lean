/-
  singleVersionReads, walked: no panic, two pointers.
-/
import Derived.Test.YbulkdvbsGreatSVI
import Derived.BigQuiet
import Derived.Test.YbulkdvbsGreatAdd
import Derived.BigRegion
import Derived.BigRegionIn
import Derived.Test.YbulkdvbsGreatGraph
namespace Go.Proofs.YbulkdvbsGreat
open Go.RowKit Go.Shelf
attribute [local go_sem ↓] exec_make95
attribute [local go_sem ↓] exec_make86
attribute [local go_sem ↓] exec_make62
attribute [local go_sem ↓] exec_make215
attribute [local go_sem ↓ 2000] exec_app
attribute [local go_sem] Oper.semAt_some
/-- A slice of int32, to be read. -/
theorem Vec.src9 {w : World} {a : Option Addr} {n c : Nat} {f : Nat → Value} (h : Vec w 21 1 a n c (fun i _ => f i)) : Src1 w (.slice a n c) n f := by
  by_cases h0 : 0 < n
  · obtain ⟨g, rfl, _, r⟩ := h.blk h0
    exact .inr ⟨g, 0, c, rfl, fun j hj => by have := r.cell j 0 hj (by omega); simpa using this⟩
  · obtain rfl : n = 0 := by omega
    rcases h.own.2 with ⟨e, _⟩ | ⟨g, cap, cur, e, _⟩
    · exact .inl ⟨e, rfl⟩
    · exact .inr ⟨g, 0, cap, e, fun j hj => by omega⟩
theorem zero95 (w : World) : (zeroValue 95).run Ybaz.prog w = .ok (.slice none 0 0) w := by kernel_rfl
theorem SC.look {w6 : World} {SU AM NK B : Nat} {cls : Nat → Nat} {has : Nat → Bool} {wa : Nat → Option Addr} {ln wc : Nat → Nat} {av : Nat → Nat → Nat} {an : Nat} {wr : World} (h : SC w6 SU AM NK B cls has wa ln wc av an wr) (t : Nat) (ht : t ≤ 5) : (Instr.lookup 214 (.map (some AM)) (.int .u64 (t : Int)) false).run Ybaz.prog wr = .ok (.slice (wa t) (ln t) (wc t)) wr := by
  have := h.mp.look keyed31 Ybaz.underlying214 (zero95 _) (tkey t ht)
  rw [intM_int, valF_at] at this
  rw [this]
  unfold awF
  cases hh : has t with
  | true => rfl
  | false => obtain ⟨a, b, c⟩ := h.non t hh; rw [a, b, c]; rfl
set_option maxHeartbeats 8000000 in
set_option maxRecDepth 100000 in
theorem sv_any (OB M oc : Nat) (kd tx ky : Nat → Nat) (KS NK : Nat) (wt : Nat → Prop) (num : Nat → Nat) (sx : Nat → ByteArray) (mb : Nat) (sa : Option Addr) (sc mn EM en : Nat) (w : World) (h : OP w OB M kd tx ky) (hks : KSp w KS NK wt num sx mb sa sc mn) (H : KH kd ky wt num M) (hem : MQ isU8 w EM en) :
    Calls Ybaz.prog 66 #[.slice (some ⟨OB, 0, none⟩) M oc, .map (some EM), .pointer (some ⟨KS, 0, none⟩)] w fun e w' => RetPP e ∧ Keep (fun _ => False) w w' := by
  have HO : Hid _ := h
  have HS : Hid _ := hks
  have HH : Hid _ := H
  have HEM : Hid (MQ isU8 w EM en) := hem
  have hM := h.hM
  have hM' : (M : Int) ≤ 2000 := by omega
  have hnk := hks.nk
  have hnk' : (NK : Int) ≤ 3 := by omega
  have r95 := fun W => run_mkv 95 21 (.int .i32 0) 1 4 Ybaz.underlying95 inf21 (by omega) W M (by omega)
  have HA0 : Hid (SA1 w w.heap.size OB M oc EM KS NK 0 0 none 0 (((((w.alloc (.cells #[.slice (some ⟨OB, 0, none⟩) M oc] 23)).alloc (.cells #[.map (some EM)] 46)).alloc (.cells #[.pointer (some ⟨KS, 0, none⟩)] 50)).alloc (.cells (mc (.int .i32 0) 1 M) 21)).alloc (.cells #[.slice (some ⟨w.heap.size + 3, 0, none⟩) M M] 95))) := by
    have k1 := Keep.alloc (fun _ => False) w (.cells #[.slice (some ⟨OB, 0, none⟩) M oc] 23)
    have e1 := heap_alloc_new w (.cells #[.slice (some ⟨OB, 0, none⟩) M oc] 23)
    have s1 : (w.alloc (.cells #[.slice (some ⟨OB, 0, none⟩) M oc] 23)).heap.size = w.heap.size + 1 := World.size_alloc _ _
    generalize w.alloc (.cells #[.slice (some ⟨OB, 0, none⟩) M oc] 23) = w1 at *
    have k2 := Keep.alloc (fun _ => False) w1 (.cells #[.map (some EM)] 46)
    have e2 := heap_alloc_new w1 (.cells #[.map (some EM)] 46)
    have s2 : (w1.alloc (.cells #[.map (some EM)] 46)).heap.size = w1.heap.size + 1 := World.size_alloc _ _
    generalize w1.alloc (.cells #[.map (some EM)] 46) = w2 at *
    have k3 := Keep.alloc (fun _ => False) w2 (.cells #[.pointer (some ⟨KS, 0, none⟩)] 50)
    have e3 := heap_alloc_new w2 (.cells #[.pointer (some ⟨KS, 0, none⟩)] 50)
    have s3 : (w2.alloc (.cells #[.pointer (some ⟨KS, 0, none⟩)] 50)).heap.size = w2.heap.size + 1 := World.size_alloc _ _
    generalize w2.alloc (.cells #[.pointer (some ⟨KS, 0, none⟩)] 50) = w3 at *
    have k4 := Keep.alloc (fun _ => False) w3 (.cells (mc (.int .i32 0) 1 M) 21)
    have e4 := heap_alloc_new w3 (.cells (mc (.int .i32 0) 1 M) 21)
    have s4 : (w3.alloc (.cells (mc (.int .i32 0) 1 M) 21)).heap.size = w3.heap.size + 1 := World.size_alloc _ _
    generalize w3.alloc (.cells (mc (.int .i32 0) 1 M) 21) = w4 at *
    have k5 := Keep.alloc (fun _ => False) w4 (.cells #[.slice (some ⟨w.heap.size + 3, 0, none⟩) M M] 95)
    have e5 := heap_alloc_new w4 (.cells #[.slice (some ⟨w.heap.size + 3, 0, none⟩) M M] 95)
    generalize w4.alloc (.cells #[.slice (some ⟨w.heap.size + 3, 0, none⟩) M M] 95) = w5 at *
    rw [s1] at e2 s2
    rw [s2] at e3 s3
    rw [s3] at e4 s4
    rw [s4] at e5
    have f1 := k5.at (k4.at (k3.at (k2.at e1 id) id) id) id
    have f2 := k5.at (k4.at (k3.at e2 id) id) id
    have f3 := k5.at (k4.at e3 id) id
    have f4 := k5.at e4 id
    exact ⟨fun _ => 0, fun _ => 0, ⟨(((k1.trans k2 (fun _ q => q.elim)).trans k3 (fun _ q => q.elim)).trans k4 (fun _ q => q.elim)).trans k5 (fun _ q => q.elim), rfl, f1, f2, f3, e5, Row.made1 _ _ M (.int .i32 0) 21 rfl f4, fun _ => .inr rfl, Vec.nil _ _ _ _, fun j hj => by omega, fun q => by omega, fun g q => by simp at q⟩, Nat.le_refl _⟩
  clear h hks H hem
  refine (callsIn_wide (n := 5)).1 ?_
  refine callsIn_of_wp_marks Ybaz.func66 rfl trivial ?_ rfl
  refine wpIn_wide.2 ?_
  simp only [Ybaz.ntmps66, List.size_toArray, List.length_cons, List.length_nil, Nat.reduceAdd, Nat.reduceSub, Array.replicate_succ, Array.replicate_zero, List.push_toArray, List.append_toArray, List.nil_append, List.cons_append]
  go_upto_region 2 with fail
  simp only [Nat.add_assoc, Nat.reduceAdd]
  clear r95
  generalize (((((w.alloc (.cells #[.slice (some ⟨OB, 0, none⟩) M oc] 23)).alloc (.cells #[.map (some EM)] 46)).alloc (.cells #[.pointer (some ⟨KS, 0, none⟩)] 50)).alloc (.cells (mc (.int .i32 0) 1 M) 21)).alloc (.cells #[.slice (some ⟨w.heap.size + 3, 0, none⟩) M M] 95)) = w1 at *
  obtain ⟨B, hB⟩ : ∃ B, B = w.heap.size := ⟨_, rfl⟩
  rw [← hB] at HA0 ⊢
  have HBw : Hid _ := hB
  clear hB
  have c3 : w1.cell? ⟨B, 0, none⟩ = some (.slice (some ⟨OB, 0, none⟩) M oc) := by
    obtain ⟨_, _, q, _⟩ := HA0.out
    exact cell_of _ _ 0 _ _ q.b3
  go_wp2
  clear c3
  go_loopg [9, 53] M (fun gk s9 s wr => ∃ (i N : Nat) (wa : Option Addr) (wc : Nat), i ≤ M ∧ s9 = .slice wa N wc ∧ s = .int .i64 (i : Int) ∧ gk = M - i ∧ Hid (SA1 w B OB M oc EM KS NK N i wa wc wr))
  case atStart => exact ⟨0, 0, none, 0, Nat.zero_le _, rfl, rfl, rfl, HA0⟩
  case round =>
    clear HA0
    obtain ⟨i, N, wa, wc, hi, rfl, rfl, rfl, HR⟩ := hrel
    by_cases hlt : i < M
    · as_aux_lemma =>
      -- BEGIN A
      have i1 : (i : Int) < (M : Int) := by omega
      have i2 : (i : Int).toNat = i := by omega
      obtain ⟨ka, it, hsa, hNi⟩ := HR.out
      obtain ⟨e0, e1, e2, e3, e4, e5, e6⟩ := (HO.out.keep hsa.k id).cell i hlt
      have kA := Keep.alloc (fun _ => False) wr (.cells #[.int .u8 (kd i : Int), .int .u64 (tx i : Int), .string (kstr (ky i)), .string ⟨#[]⟩, .bool false, .int .u64 0, .slice none 0 0] 34)
      have HM : Hid _ := hsa.quiet kA
      have HB3 : Hid _ := heap_alloc_new wr (.cells #[.int .u8 (kd i : Int), .int .u64 (tx i : Int), .string (kstr (ky i)), .string ⟨#[]⟩, .bool false, .int .u64 0, .slice none 0 0] 34)
      clear kA hsa HR
      go_upto_region 6 with fail
      clear e0 e1 e2 e3 e4 e5 e6
      generalize (wr.alloc (.cells #[.int .u8 (kd i : Int), .int .u64 (tx i : Int), .string (kstr (ky i)), .string ⟨#[]⟩, .bool false, .int .u64 0, .slice none 0 0] 34)) = w3 at *
      generalize wr.heap.size = bO at *
      have e0 : w3.cell? ⟨bO, 0, none⟩ = some (.int .u8 (kd i : Int)) := cell_of _ _ 0 _ _ HB3.out
      by_cases hk : kd i = 119
      · have hw := HH.out.hwr i hlt hk
        have hky : ky i < 3 := by have := HO.out.hk i hlt; omega
        have hx : num (ky i) < NK := HS.out.nlt _ hky hw
        have e2 : w3.cell? ⟨bO, 2, none⟩ = some (.string (kstr (ky i))) := cell_of _ _ 2 _ _ HB3.out
        have kq : ((kd i : Int) == 119) = true := by simp; omega
        rw [hk] at e0
        have c8 : w3.cell? ⟨B + 4, 0, none⟩ = some (.slice (some ⟨B + 3, 0, none⟩) M M) := cell_of _ _ 0 _ _ HM.out.b8
        have c5 : w3.cell? ⟨B + 2, 0, none⟩ = some (.pointer (some ⟨KS, 0, none⟩)) := cell_of _ _ 0 _ _ HM.out.b5
        have hs3 := HS.out.keep HM.out.k id id (fun _ _ => id)
        have ck : w3.cell? ⟨KS, 0, none⟩ = some (.map (some mb)) := cell_of _ _ 0 _ _ hs3.blk
        have hL : (Instr.lookup 74 (.map (some mb)) (.string (kstr (ky i))) false).run Ybaz.prog w3.drew = .ok (.int .i64 (num (ky i) : Int)) w3.drew := by
          obtain ⟨m, hm, q1, _⟩ := hs3.map
          have := (hm.keep ((Keep.refl (fun _ => False) w3).drew) id).look keyed9 Ybaz.underlying74 (zero3 _) (kkey (ky i))
          rw [keyM_at _ _ hky, q1 _ hky hw] at this
          exact this
        obtain ⟨x, hxe⟩ : ∃ x, x = num (ky i) := ⟨_, rfl⟩
        rw [← hxe] at hL hx
        have x1 : (x : Int) < 3 := by omega
        have ca := HM.out.row.cell i hlt
        have fa := HM.out.row.free i
        have HM2 : Hid _ := HM.out.key i x hlt hx
        clear hs3 HM HB3 hxe
        have xw : IntKind.i32.wrap (x : Int) = (x : Int) := by unfold IntKind.wrap; simp [IntKind.bits, IntKind.signed]; omega
        go_upto_region 7 with fail
        go_big_region
        have hM3 := HM2.out.quiet ((Keep.refl (fun _ => False) (w3.setCell ⟨B + 3, i, none⟩ (.int .i32 (x : Int)))).drew)
        have HM3 : Hid _ := hM3
        clear hL e0 e2 c8 c5 ck ca fa HM2 hM3
        generalize (w3.setCell ⟨B + 3, i, none⟩ (.int .i32 (x : Int))).drew = w4 at *
        obtain ⟨g5, cap5, w5, hr5, hv5, hk5, hg5, hl5⟩ := run_push (w4.alloc (.cells #[.int .i32 (i : Int)] 21)) 95 21 95 1 4 _ Ybaz.underlying95 inf21 rfl Nat.one_pos (by decide) wa N wc _ (HM3.out.vec.alloc _) ⟨w4.heap.size, 0, none⟩ 1 (fun _ => .int .i32 (i : Int)) (new1 w4 _ 21) (fun _ _ => rfl) (by omega)
        have HF : Hid (SA1 w B OB M oc EM KS NK (N + 1) (i + 1) (some ⟨g5, 0, none⟩) cap5 w5) := by
          refine ⟨_, _, (HM3.out.quiet (Keep.alloc (fun _ => False) w4 (.cells #[.int .i32 (i : Int)] 21))).push i hlt (by omega) hv5 hk5 ?_, by omega⟩
          rcases hg5 with q | q
          · exact .inl q
          · exact .inr (by omega)
        clear hv5 hk5 hg5 hl5 HM3
        go_wp2
        go_roundg (M - (i + 1))
        case measure => omega
        case rel => exact ⟨i + 1, N + 1, some ⟨g5, 0, none⟩, cap5, by omega, rfl, by go_num, rfl, HF⟩
      · have kq : ((kd i : Int) == 119) = false := by simp; omega
        have kq2 : ¬ (kd i : Int) = 119 := by omega
        have HF : Hid (SA1 w B OB M oc EM KS NK N (i + 1) wa wc w3) := ⟨_, _, HM.out, by omega⟩
        clear HM HB3
        go_wp2
        go_roundg (M - (i + 1))
        case measure => omega
        case rel => exact ⟨i + 1, N, wa, wc, by omega, rfl, by go_num, rfl, HF⟩
      -- END A
    · obtain rfl : M = i := by omega
      have q1 : ¬ (M : Int) < (M : Int) := by omega
      obtain ⟨w1, rfl⟩ : ∃ w1, w1 = wr := ⟨_, rfl⟩
      have hmf : ∀ fn first cap w, (Instr.makeFunc fn first cap).run Ybaz.prog w = .ok (.func fn first cap) w := fun _ _ _ _ => rfl
      obtain ⟨ka, it, hsa, hNi⟩ := HR.out
      have hks1 := HS.out.keep hsa.k id id (fun _ _ => id)
      have c5 : w1.cell? ⟨B + 2, 0, none⟩ = some (.pointer (some ⟨KS, 0, none⟩)) := cell_of _ _ 0 _ _ hsa.b5
      have ck : w1.cell? ⟨KS, 1, none⟩ = some (.slice sa NK sc) := cell_of _ _ 1 _ _ hks1.blk
      have HBU := fun (_ : Unit) => (bucketed_any (.slice wa N wc) N NK (fun j => (it j : Int)) (fun j => ka (it j)) 120 #[.pointer (some ⟨B + 4, 0, none⟩)] (if M = 0 then 1 else (M : Int)) w1 (cf Ybaz.func120 (by kernel_rfl) (by kernel_rfl)) (by omega) (by omega) hsa.vec.src9 (fun j hj => by have := hsa.kl (it j); have := hsa.nk (by omega); omega) (fun W kW j hj => keyAt1 (B + 4) (B + 3) M (it j) (ka (it j)) W (kW.at hsa.b8 id) hM (hsa.il j hj) (by have := hsa.kl (it j); omega) ((kW.cell ⟨B + 3, it j, none⟩ (by have := hsa.lt; show B + 3 < _; omega) id).trans (hsa.row.cell _ (hsa.il j hj)))) (by split <;> omega) (fun j hj => by have := hsa.il j hj; rw [if_neg (by omega)]; omega)).mono (fun e w' h => (⟨h.1, h.2⟩ : BuckOut w1 w' N NK (if M = 0 then 1 else (M : Int)) e ∧ Hid (Keep (fun _ => False) w1 w')))
      have HSA : Hid _ := hsa
      clear hsa hks1 HR
      go_upto_region 11 with (go_at_call 57; refine (HBU ()).mono ?_; clear HBU; rintro e w2 ⟨⟨SO, ST, so, st, rfl, s1, s2, s3, s4, s5, s6, s7, s8, s9, s10⟩, HK2⟩)
      have hs2 := HSA.out.quiet HK2.out
      have c3 : w2.cell? ⟨B, 0, none⟩ = some (.slice (some ⟨OB, 0, none⟩) M oc) := cell_of _ _ 0 _ _ hs2.b3
      have HS2 : Hid _ := hs2
      have HBK : Hid (Row w2 SO N (fun i => .int .i32 (so i)) ∧ Row w2 ST (NK + 1) (fun i => .int .i32 (st i : Int)) ∧ (∀ i, i < N → 0 ≤ so i ∧ so i < (if M = 0 then 1 else (M : Int))) ∧ (∀ b, b < NK → st b ≤ st (b + 1)) ∧ (∀ b, b ≤ NK → st b ≤ N) ∧ SO < w2.heap.size ∧ ST < w2.heap.size ∧ B + 5 ≤ SO ∧ B + 5 ≤ ST) := ⟨s1, s2, s3, s4, s5, s8, s9, by have := HSA.out.lt; omega, by have := HSA.out.lt; omega⟩
      have r86 := fun W => run_mkv 86 4 (.bool false) 1 1 Ybaz.underlying86 inf4 (by omega) W M (by omega)
      have hmm := fun W => run_makeMap (P := Ybaz.prog) 210 W
      have hks2 := HS.out.keep hs2.k id id (fun _ _ => id)
      clear s1 s2 s3 s4 s5 s6 s7 s8 s9 s10 HSA HK2 hs2 c5 ck
      go_upto_region 13 with fail
      simp only [Nat.add_assoc, Nat.reduceAdd]
      have HE : Hid (E2 w B OB M oc EM KS NK N ka SO ST so st w2.heap.size ((((w2.alloc (.cells (mc (.bool false) 1 M) 4)).alloc (.cells #[.slice (some ⟨w2.heap.size, 0, none⟩) M M] 86)).alloc (.map #[] 0)).alloc (.cells #[.map (some (w2.heap.size + 2))] 210)) ∧ SB M w2.heap.size 0 ((((w2.alloc (.cells (mc (.bool false) 1 M) 4)).alloc (.cells #[.slice (some ⟨w2.heap.size, 0, none⟩) M M] 86)).alloc (.map #[] 0)).alloc (.cells #[.map (some (w2.heap.size + 2))] 210))) := by
        obtain ⟨p1, p2, p3, p4, p5, p6, p7, p8, p9⟩ := HBK.out
        have g := HS2.out
        have hl := g.lt
        have k1 := Keep.alloc (fun _ => False) w2 (.cells (mc (.bool false) 1 M) 4)
        have e1 := heap_alloc_new w2 (.cells (mc (.bool false) 1 M) 4)
        have z1 : (w2.alloc (.cells (mc (.bool false) 1 M) 4)).heap.size = w2.heap.size + 1 := World.size_alloc _ _
        generalize w2.alloc (.cells (mc (.bool false) 1 M) 4) = v1 at *
        have k2 := Keep.alloc (fun _ => False) v1 (.cells #[.slice (some ⟨w2.heap.size, 0, none⟩) M M] 86)
        have e2 := heap_alloc_new v1 (.cells #[.slice (some ⟨w2.heap.size, 0, none⟩) M M] 86)
        have z2 : (v1.alloc (.cells #[.slice (some ⟨w2.heap.size, 0, none⟩) M M] 86)).heap.size = v1.heap.size + 1 := World.size_alloc _ _
        generalize v1.alloc (.cells #[.slice (some ⟨w2.heap.size, 0, none⟩) M M] 86) = v2 at *
        have k3 := Keep.alloc (fun _ => False) v2 (.map #[] 0)
        have e3 := MQ.made isB v2
        have z3 : (v2.alloc (.map #[] 0)).heap.size = v2.heap.size + 1 := World.size_alloc _ _
        generalize v2.alloc (.map #[] 0) = v3 at *
        have k4 := Keep.alloc (fun _ => False) v3 (.cells #[.map (some (w2.heap.size + 2))] 210)
        have e4 := heap_alloc_new v3 (.cells #[.map (some (w2.heap.size + 2))] 210)
        generalize v3.alloc (.cells #[.map (some (w2.heap.size + 2))] 210) = v4 at *
        rw [z1] at e2 z2
        rw [z2] at e3 z3
        rw [z3] at e4
        have kk := ((k1.trans k2 (fun _ q => q.elim)).trans k3 (fun _ q => q.elim)).trans k4 (fun _ q => q.elim)
        have f1 := k4.at (k3.at (k2.at e1 id) id) id
        have g2 := g.quiet kk
        exact ⟨⟨g2.k, g2.hB, g2.b3, g2.b4, g2.b5, g2.b8, g2.row, g2.kl, g2.nk, p1.keep (kk.block _ p6 id), p2.keep (kk.block _ p7 id), p3, p4, p5, k4.at (k3.at e2 id) id, e4, hl, p6, p7, hNi⟩, ⟨fun _ => false, Row.made1 _ _ M (.bool false) 4 rfl f1⟩, e3.keep k4 id⟩
      have hks3 := HS.out.keep HE.out.1.k id id (fun _ _ => id)
      have HCS : Hid (KS < w2.heap.size ∧ mb < w2.heap.size ∧ OB < w2.heap.size ∧ EM < w2.heap.size ∧ ∀ g, sa = some ⟨g, 0, none⟩ → 0 < NK → g < w2.heap.size) := by
        have hz := HS2.out.k.size
        refine ⟨Nat.lt_of_lt_of_le (heap_lt HS.out.blk) hz, ?_, Nat.lt_of_lt_of_le HO.out.lt hz, Nat.lt_of_lt_of_le HEM.out.lt hz, fun g e h0 => ?_⟩
        · obtain ⟨m, hm, _⟩ := HS.out.map
          exact Nat.lt_of_lt_of_le hm.lt hz
        · obtain ⟨g', e', hg, _⟩ := HS.out.row h0
          rw [e] at e'
          have : g = g' := by injection e' with q; injection q
          omega
      clear HS2 HBK r86 hmm c3 hks2
      generalize ((((w2.alloc (.cells (mc (.bool false) 1 M) 4)).alloc (.cells #[.slice (some ⟨w2.heap.size, 0, none⟩) M M] 86)).alloc (.map #[] 0)).alloc (.cells #[.map (some (w2.heap.size + 2))] 210)) = w3 at *
      generalize w2.heap.size = C at *
      have c5 : w3.cell? ⟨B + 2, 0, none⟩ = some (.pointer (some ⟨KS, 0, none⟩)) := cell_of _ _ 0 _ _ HE.out.1.b5
      have ck : w3.cell? ⟨KS, 1, none⟩ = some (.slice sa NK sc) := cell_of _ _ 1 _ _ hks3.blk
      clear hks3
      go_wp2
      clear c5 ck
      refine wp_loop_marks (fun i => i == 16 || i == 18 || i == 19 || (decide (98 ≤ i) && decide (i ≤ 130))) (fun u ds W => ∃ k : Nat, k ≤ NK ∧ u 98 = .int .i64 (k : Int) ∧ Hid (∃ n, n ≤ 2000 ∧ E2 w B OB M oc EM KS NK N ka SO ST so st C W ∧ SB M C n W) ∧ Hid (Marks (C + 4) W ds)) (fun u => NK - (intOf (u 98)).toNat) rfl ⟨0, Nat.zero_le _, rfl, ⟨0, by omega, HE.out.1, HE.out.2⟩, ⟨List.nodup_nil, fun d hd => by simp at hd⟩⟩ ?_
      rintro u ds W K ⟨k, hk, hu, HE2, HMk⟩ hK
      clear HE
      simp only [updL, Nat.reduceAdd, Nat.reduceBEq, Nat.reduceLeDiff, decide_true, decide_false, Bool.or_false, Bool.or_true, Bool.and_true, Bool.and_false, Bool.false_eq_true, if_true, if_false, hu]
      by_cases hlt : k < NK
      · as_aux_lemma =>
        -- BEGIN B
        have k1 : (k : Int) < (NK : Int) := by omega
        have k2 : (k : Int).toNat = k := by omega
        have k3 : (k : Int) + 1 ≤ (NK : Int) := by omega
        have k4 : ((k : Int) + 1).toNat = k + 1 := by omega
        have k5 : (k : Int) + 1 < (NK : Int) + 1 := by omega
        have k6 : (k : Int) < (NK : Int) + 1 := by omega
        have k7 : (0 : Int) ≤ (k : Int) + 1 := by omega
        obtain ⟨n, hn, he, hsb⟩ := HE2.out
        have cl : W.cell? ⟨C + 3, 0, none⟩ = some (.map (some (C + 2))) := cell_of _ _ 0 _ _ he.bl
        obtain ⟨w4, hc4, hm4, hk4⟩ := hsb.lm.clear Ybaz.underlying210 0
        have hE4 : E2 w B OB M oc EM KS NK N ka SO ST so st C w4 := he.keep hk4 (fun b q => .inr (.inl q))
        have hS4 : SB M C 0 w4 := ⟨by obtain ⟨fb, r⟩ := hsb.fr; exact ⟨fb, r.keep (hk4.block C (by have := he.lt; omega) (by show ¬ C = C + 2; omega))⟩, hm4⟩
        have HE4 : Hid _ := hE4
        have HS4 : Hid _ := hS4
        have HM4 : Hid (Marks (C + 4) w4 ds) := HMk.out.keep hk4 (fun b q r => by have : b = C + 2 := r; omega)
        have HC4 : Hid (C + 4 ≤ w4.heap.size) := hE4.lt
        clear hE4 hS4 he hsb HE2 HMk hm4 hk4
        go_upto_region 17 with fail
        clear cl hc4
        have ct0 := HE4.out.rt.cell k (by omega)
        have ct1 := HE4.out.rt.cell (k + 1) (by omega)
        have hab := HE4.out.s4 k hlt
        have hbN := HE4.out.s5 (k + 1) (by omega)
        have hST := HE4.out.st1
        obtain ⟨a, ha⟩ : ∃ a, a = st k := ⟨_, rfl⟩
        obtain ⟨b, hb⟩ : ∃ b, b = st (k + 1) := ⟨_, rfl⟩
        rw [← ha] at ct0 hab
        rw [← hb] at ct1 hab hbN
        have a1 : (a : Int) ≤ (b : Int) := by omega
        have a2 : (b : Int) ≤ (N : Int) := by omega
        have a3 : (a : Int).toNat = a := by omega
        have a4 : (b : Int).toNat = b := by omega
        have zk : IntKind.i64.wrap ((k : Int) + 1) = (k : Int) + 1 := by unfold IntKind.wrap; simp [IntKind.bits, IntKind.signed]; omega
        have HC : Hid (∀ (aa : Option Addr) (nn cc : Nat) (v : World), Keep (fun _ => False) w4 v → Calls Ybaz.prog 121 #[.slice aa nn cc] v fun e w' => ∃ bx, e = .returned (.func (.func 188) #[] #[.pointer (some ⟨bx, 0, none⟩)]) ∧ (w'.cell? ⟨ST, k, none⟩ = some (.int .i32 (a : Int)) ∧ w'.cell? ⟨ST, k + 1, none⟩ = some (.int .i32 (b : Int))) ∧ Hid (w'.heap[bx]? = some (.cells #[.slice aa nn cc] 95) ∧ Keep (fun _ => False) w4 w' ∧ w4.heap.size ≤ bx)) := fun aa nn cc v kv => by
          refine (backward121 aa nn cc v).mono ?_
          rintro e w' ⟨rfl, rfl⟩
          have kk := kv.trans (Keep.alloc (fun _ => False) v (.cells #[.slice aa nn cc] 95)) (fun _ q => q.elim)
          have hl := HE4.out.lt
          exact ⟨_, rfl, ⟨(kk.cell ⟨ST, k, none⟩ (by show ST < _; omega) id).trans ct0, (kk.cell ⟨ST, k + 1, none⟩ (by show ST < _; omega) id).trans ct1⟩, heap_alloc_new _ _, kk, kv.size⟩
        have h0 : w4.drew.cell? ⟨ST, k, none⟩ = some (.int .i32 (a : Int)) ∧ w4.drew.cell? ⟨ST, k + 1, none⟩ = some (.int .i32 (b : Int)) := ⟨ct0, ct1⟩
        have HAB : Hid (a = st k ∧ b = st (k + 1)) := ⟨ha, hb⟩
        obtain ⟨ba, hba⟩ : ∃ ba, (if N = a then (some ⟨SO, 0, none⟩ : Option Addr) else some ⟨SO, a, none⟩) = ba := ⟨_, rfl⟩
        have HBA : Hid (0 < b - a → ba = some ⟨SO, a, none⟩) := fun q => by rw [← hba, if_neg (by omega)]
        clear ct0 ct1 ha hb
        go_region_held3 (fun w' => w'.cell? ⟨ST, k, none⟩ = some (.int .i32 (a : Int)) ∧ w'.cell? ⟨ST, k + 1, none⟩ = some (.int .i32 (b : Int))) (first | assumption | exact h0) (first
          | (go_at_call 121; refine (HC.out _ _ _ _ ?_).mono ?_; (exact ⟨rfl, rfl, rfl, Nat.le_refl _, fun _ _ _ => rfl⟩); rintro e w5 ⟨bx, rfl, hS5, HX5⟩))
        clear hba h0 HC hS5 zk
        obtain ⟨d, hd⟩ : ∃ d, b - a = d := ⟨_, rfl⟩
        obtain ⟨cc, hcc⟩ : ∃ cc, N - a = cc := ⟨_, rfl⟩
        rw [hd, hcc] at HX5
        rw [hd] at HBA
        have hdn : d ≤ N ∧ a + d ≤ N := by omega
        clear hcc
        have HE5 : Hid _ := HE4.out.keep HX5.out.2.1 (fun _ q => q.elim)
        have HS5 : Hid _ := HS4.out.keep HX5.out.2.1 (by have := HE4.out.lt; omega) id id
        have HM5 : Hid _ := Marks.keep HM4.out HX5.out.2.1 (fun _ _ q => q.elim)
        clear HE4 HS4 HM4
        go_wp2
        have hw5 := HE5.out.lt
        have hso := HE5.out.so1
        have hN2 := HE5.out.nm
        have hbx := heap_lt HX5.out.1
        have HBX : Hid (bx ≠ C ∧ bx ≠ C + 2) := by
          have h1 := HX5.out.2.2
          have h2 := HX5.out.2.1.size
          have := HC4.out
          exact ⟨by omega, by omega⟩
        refine wp_range_slot (α := _root_.Fin d) 188 #[.pointer (some ⟨bx, 0, none⟩)] rfl (cf Ybaz.func188 (by kernel_rfl) (by kernel_rfl)) (back188_stops 4 (by decide) bx SO a d cc ba (fun j => so (a + j)) (by omega) HBA.out w5 hbx (by omega) (cell_of _ _ 0 _ _ HX5.out.1) (fun j hj => HE5.out.ro.cell (a + j) (by omega))) (fun h k => h.trans k) ?hKb (fun _ => rfl) (fun (pre : List (_root_.Fin d)) W => Keep (fun b => b = C ∨ b = C + 2) w5 W ∧ pre.length ≤ d ∧ ∃ n, n ≤ pre.length ∧ SB M C n W) ?own ⟨Keep.refl _ _, Nat.zero_le _, 0, Nat.zero_le _, HS5.out⟩ 18 (fun x => .int .i32 (so (a + x.1))) ?assign ?body ?done
        case hKb =>
          intro W l o o' hl ho hc hw
          exact ⟨World.putObj_heap_other (by omega), World.putObj_heap_other (by omega)⟩
        case own =>
          rintro pre W W' row ⟨hk, hpd, n, hn, hs⟩ hg hr
          have kg := grown_keep2 hg
          have hF : ∀ b, row = some b → w5.heap.size ≤ b := fun b e => (hr b e).1
          refine ⟨hk.trans kg (fun b e => .inr (hF b e)), hpd, n, hn, hs.keep kg (by have := hk.size; omega) (fun e => by have := hF _ e; omega) (fun e => by have := hF _ e; omega)⟩
        case assign =>
          intro l x W K hK
          simp [laidT] at hK ⊢
          gi_wp2
          exact hK
        case body =>
          rintro l pre x W ⟨hk, hpd, n, hn, hs⟩ hpl
          have hxd := x.2
          have he := HE5.out.keep hk (fun b q => by have : b = C ∨ b = C + 2 := q; omega)
          obtain ⟨q, hq⟩ : ∃ q : Nat, so (a + x.1) = (q : Int) := ⟨(so (a + x.1)).toNat, by have := he.sl (a + x.1) (by omega); omega⟩
          have hqM : q < M := by
            have := he.sl (a + x.1) (by omega)
            rw [hq] at this
            have hM0 : ¬ M = 0 := by omega
            rw [if_neg hM0] at this
            omega
          have q1 : (q : Int) < (M : Int) := by omega
          have q2 : (q : Int).toNat = q := by omega
          have c3 : W.cell? ⟨B, 0, none⟩ = some (.slice (some ⟨OB, 0, none⟩) M oc) := cell_of _ _ 0 _ _ he.b3
          have et := ((HO.out.keep he.k id).cell q hqM).2.1
          have ht := HO.out.ht q hqM
          have cf : W.cell? ⟨C + 1, 0, none⟩ = some (.slice (some ⟨C, 0, none⟩) M M) := cell_of _ _ 0 _ _ he.bf
          have cl : W.cell? ⟨C + 3, 0, none⟩ = some (.map (some (C + 2))) := cell_of _ _ 0 _ _ he.bl
          obtain ⟨fb, hfr⟩ := hs.fr
          have cq := hfr.cell q hqM
          have fq := hfr.free q
          obtain ⟨v, ⟨bv, rfl⟩, hL⟩ := hs.lm.looks Ybaz.underlying210 zero4 ⟨false, rfl⟩ (tx q) ht.2
          have hL1 := hL W.drew ((Keep.refl _ _).drew)
          have kS := Keep.setCell W ⟨C, q, none⟩ (.bool (!bv))
          have hlm : MQ isB (W.setCell ⟨C, q, none⟩ (.bool (!bv))).drew (C + 2) n := (hs.lm.keep kS (by show ¬ C + 2 = C; omega)).keep ((Keep.refl (fun _ => False) _).drew) id
          obtain ⟨w7, hr7, hm7, hk7, hz7⟩ := hlm.put Ybaz.underlying210 (by have := HE5.out.nm; unfold maxLen; omega) (tx q) ht.2 (.bool true) ⟨true, rfl⟩
          have hfin : Keep (fun b => b = C ∨ b = C + 2) W w7 ∧ SB M C (n + 1) w7 := by
            have k1 : Keep (fun b => b = C) W (W.setCell ⟨C, q, none⟩ (.bool (!bv))).drew := kS.drew
            refine ⟨(k1.wide (fun b e => .inl e)).trans hk7 (fun b e => .inl (.inr e)), ⟨fun i => if i = q then !bv else fb i, ?_⟩, hm7⟩
            have h1 : (W.setCell ⟨C, q, none⟩ (.bool (!bv))).drew.heap[C]? = (W.setCell ⟨C, q, none⟩ (.bool (!bv))).heap[C]? := rfl
            have h2 := hk7.block C (by have := hk.size; show C < (W.setCell ⟨C, q, none⟩ (.bool (!bv))).heap.size; have := kS.size; omega) (by show ¬ C = C + 2; omega)
            refine ((hfr.set q (.bool (!bv)) hqM).keep (h2.trans h1)).congr (fun i _ => ?_)
            by_cases e : i = q <;> simp [e]
          have cl2 : (W.setCell ⟨C, q, none⟩ (.bool (!bv))).cell? ⟨C + 3, 0, none⟩ = some (.map (some (C + 2))) := cell_of _ _ 0 _ _ (kS.at he.bl (by show ¬ C + 3 = C; omega))
          have cf2 : (W.setCell ⟨C, q, none⟩ (.bool (!bv))).cell? ⟨C + 1, 0, none⟩ = some (.slice (some ⟨C, 0, none⟩) M M) := cell_of _ _ 0 _ _ (kS.at he.bf (by show ¬ C + 1 = C; omega))
          have HC37 : Hid (w7.heap[C + 3]? = some (.cells #[.map (some (C + 2))] 210) ∧ w7.heap[C + 1]? = some (.cells #[.slice (some ⟨C, 0, none⟩) M M] 86)) := by
            have := he.keep hfin.1 (fun b q => by have : b = C ∨ b = C + 2 := q; omega)
            exact ⟨this.bl, this.bf⟩
          have HFin : Hid _ := hfin
          have HKW : Hid _ := hk
          clear hfin hL hlm hm7 hk7 kS hfr hs he hk hz7
          simp [laidT]
          simp only [hq]
          gi_wp2
          have cl7 : w7.cell? ⟨C + 3, 0, none⟩ = some (.map (some (C + 2))) := cell_of _ _ 0 _ _ HC37.out.1
          have cf7 : w7.cell? ⟨C + 1, 0, none⟩ = some (.slice (some ⟨C, 0, none⟩) M M) := cell_of _ _ 0 _ _ HC37.out.2
          refine wpIn_region_held_round (S := (fun w' => w'.cell? ⟨C + 1, 0, none⟩ = some (.slice (some ⟨C, 0, none⟩) M M) ∧ w'.cell? ⟨C + 3, 0, none⟩ = some (.map (some (C + 2))))) (by rintro ⟨a, w, q⟩; exact q) rfl ⟨cf, cl⟩ (fun hHeld => ?_)
          refine wpAnyH_take (i := 0) (oi := ?_) (v := ?_) (by simp only [List.getElem?_toArray, List.getElem?_cons_zero]; rfl) (by kernel_rfl) (by kernel_rfl) (by kernel_rfl) (by exact fun _ _ _ h => h) (Or.inl ⟨by rfl, ?_⟩) (by assumption) ?_; rotate_left; (focus (intro w hSw; (try dsimp only at hSw); first | (go_simp; done) | (go_simp; with_reducible rfl))); try simp only [Act.put, List.setIfInBounds_toArray, List.set_cons_zero, List.set_cons_succ]
          refine wpAnyH_take (i := 1) (oi := ?_) (v := ?_) (by simp only [List.getElem?_toArray, List.getElem?_cons_succ, List.getElem?_cons_zero]; rfl) (by kernel_rfl) (by kernel_rfl) (by kernel_rfl) (by exact fun _ _ _ h => h) (Or.inl ⟨by rfl, ?_⟩) (by assumption) ?_; rotate_left; (focus (intro w hSw; (try dsimp only at hSw); first | (go_simp; done) | (go_simp; with_reducible rfl))); try simp only [Act.put, List.setIfInBounds_toArray, List.set_cons_zero, List.set_cons_succ]
          refine wpAnyH_take (i := 4) (oi := ?_) (v := ?_) (by simp only [List.getElem?_toArray, List.getElem?_cons_succ, List.getElem?_cons_zero]; rfl) (by kernel_rfl) (by kernel_rfl) (by kernel_rfl) (by exact fun _ _ _ h => h) (Or.inl ⟨by rfl, ?_⟩) (by assumption) ?_; rotate_left; (focus (intro w hSw; (try dsimp only at hSw); first | (go_simp; done) | (go_simp; with_reducible rfl))); try simp only [Act.put, List.setIfInBounds_toArray, List.set_cons_zero, List.set_cons_succ]
          refine wpAnyH_take (i := 5) (oi := ?_) (v := ?_) (by simp only [List.getElem?_toArray, List.getElem?_cons_succ, List.getElem?_cons_zero]; rfl) (by kernel_rfl) (by kernel_rfl) (by kernel_rfl) (by exact fun _ _ _ h => h) (Or.inl ⟨by rfl, ?_⟩) (by assumption) ?_; rotate_left; (focus (intro w hSw; (try dsimp only at hSw); first | (go_simp; done) | (go_simp; with_reducible rfl))); try simp only [Act.put, List.setIfInBounds_toArray, List.set_cons_zero, List.set_cons_succ]
          refine wpAnyH_take (i := 2) (oi := ?_) (v := ?_) (by simp only [List.getElem?_toArray, List.getElem?_cons_succ, List.getElem?_cons_zero]; rfl) (by kernel_rfl) (by kernel_rfl) (by kernel_rfl) (by exact fun _ _ _ h => h) (Or.inl ⟨by rfl, ?_⟩) (by assumption) ?_; rotate_left; (focus (intro w hSw; (try dsimp only at hSw); first | (go_simp; done) | (go_simp; with_reducible rfl))); try simp only [Act.put, List.setIfInBounds_toArray, List.set_cons_zero, List.set_cons_succ]
          refine wpAnyH_take (i := 3) (oi := ?_) (v := ?_) (by simp only [List.getElem?_toArray, List.getElem?_cons_succ, List.getElem?_cons_zero]; rfl) (by kernel_rfl) (by kernel_rfl) (by kernel_rfl) (by exact fun _ _ _ h => h) (Or.inl ⟨by rfl, ?_⟩) (by assumption) ?_; rotate_left; (focus (intro w hSw; (try dsimp only at hSw); first | (go_simp; done) | (go_simp; with_reducible rfl))); try simp only [Act.put, List.setIfInBounds_toArray, List.set_cons_zero, List.set_cons_succ]
          refine wpAnyH_ready (rs := [6]) (by kernel_rfl) (by simp) ?_
          refine AllReadyH.cons (o := ?_) (by simp only [List.getElem?_toArray, List.getElem?_cons_succ, List.getElem?_cons_zero]; rfl) (fun K hK => ?_) AllReadyH.nil
          go_simp
          refine hK.out _ _ ⟨cf, cl⟩ (fun hHeld2 => ?_)
          clear hK K
          try simp only [Act.put, List.setIfInBounds_toArray, List.set_cons_zero, List.set_cons_succ]
          refine wpAnyH_take (i := 7) (oi := ?_) (v := ?_) (by simp only [List.getElem?_toArray, List.getElem?_cons_succ, List.getElem?_cons_zero]; rfl) (by kernel_rfl) (by kernel_rfl) (by kernel_rfl) (by exact fun _ _ _ h => h) (Or.inl ⟨by rfl, ?_⟩) (by assumption) ?_; rotate_left; (focus (intro w hSw; (try dsimp only at hSw); first | (go_simp; done) | (go_simp; with_reducible rfl))); try simp only [Act.put, List.setIfInBounds_toArray, List.set_cons_zero, List.set_cons_succ]
          refine wpAnyH_take (i := 8) (oi := ?_) (v := ?_) (by simp only [List.getElem?_toArray, List.getElem?_cons_succ, List.getElem?_cons_zero]; rfl) (by kernel_rfl) (by kernel_rfl) (by kernel_rfl) (by exact fun _ _ _ h => h) (Or.inl ⟨by rfl, ?_⟩) (by assumption) ?_; rotate_left; (focus (intro w hSw; (try dsimp only at hSw); first | (go_simp; done) | (go_simp; with_reducible rfl))); try simp only [Act.put, List.setIfInBounds_toArray, List.set_cons_zero, List.set_cons_succ]
          refine wpAnyH_ready (rs := [9]) (by kernel_rfl) (by simp) ?_
          refine AllReadyH.cons (o := ?_) (by simp only [List.getElem?_toArray, List.getElem?_cons_succ, List.getElem?_cons_zero]; rfl) (fun K hK => ?_) AllReadyH.nil
          go_simp
          refine hK.out _ _ ⟨cf2, cl2⟩ (fun hHeld3 => ?_)
          clear hK K
          try simp only [Act.put, List.setIfInBounds_toArray, List.set_cons_zero, List.set_cons_succ]
          refine wpAnyH_ready (rs := [10]) (by kernel_rfl) (by simp) ?_
          refine AllReadyH.cons (o := ?_) (by simp only [List.getElem?_toArray, List.getElem?_cons_succ, List.getElem?_cons_zero]; rfl) (fun K hK => ?_) AllReadyH.nil
          go_simp
          refine hK.out _ _ ⟨cf7, cl7⟩ (fun hHeld4 => ?_)
          clear hK K
          try simp only [Act.put, List.setIfInBounds_toArray, List.set_cons_zero, List.set_cons_succ]
          refine wpAnyH_done (by kernel_rfl) ?_ _
          gi_wp2
          obtain ⟨f1, f2⟩ := HFin.out
          have hbx2 := HBX.out
          have hsz := HKW.out.size
          refine ⟨⟨f1.size, fun b o hb hh _ => f1.at hh (fun q => by have : b = C ∨ b = C + 2 := q; omega)⟩, ⟨f1.block bx (by omega) (fun q => by have : bx = C ∨ bx = C + 2 := q; omega), f1.block SO (by omega) (fun q => by have : SO = C ∨ SO = C + 2 := q; omega)⟩, HKW.out.trans f1 (fun b q => .inl q), by simp; omega, n + 1, by simp; omega, f2⟩
        case done =>
          rintro D xs W hD ⟨hk, hpd, n, hn, hs⟩ hDd
          have he := HE5.out.keep hk (fun b q => by have : b = C ∨ b = C + 2 := q; omega)
          have HM6 : Hid (Marks (C + 4) W ({ target := .collected D, args := #[] } :: ds)) := by
            have h1 : Marks (C + 4) W ds := Marks.keep HM5.out hk (fun b q r => by have : b = C ∨ b = C + 2 := r; omega)
            refine h1.cons (by omega) hDd (fun d' hd' e => ?_)
            obtain ⟨D', e', _, hh⟩ := HM5.out.2 d' hd'
            rw [e'] at e
            have : D' = D := by injection e with q; injection q
            have := heap_lt hh
            omega
          have HE6 : Hid (∃ n, n ≤ 2000 ∧ E2 w B OB M oc EM KS NK N ka SO ST so st C W ∧ SB M C n W) := ⟨n, by omega, he, hs⟩
          clear he hs hk hDd
          go_wp2
          refine hK.out _ _ _ rfl ⟨k + 1, by omega, by go_num, HE6, HM6⟩ ?_
          rw [hu]
          show NK - ((k : Int) + 1).toNat < NK - (k : Int).toNat
          omega
        -- END B
      · obtain rfl : NK = k := by omega
        obtain ⟨w6, rfl⟩ : ∃ w6, w6 = W := ⟨_, rfl⟩
        have q2 : ¬ (NK : Int) < (NK : Int) := by omega
        obtain ⟨n6, hn6, he6, hs6⟩ := HE2.out
        have HE6 : Hid _ := he6
        have HS6 : Hid _ := hs6
        have hks6 := HS.out.keep he6.k id id (fun _ _ => id)
        have c5 : w6.cell? ⟨B + 2, 0, none⟩ = some (.pointer (some ⟨KS, 0, none⟩)) := cell_of _ _ 0 _ _ he6.b5
        have ck : w6.cell? ⟨KS, 1, none⟩ = some (.slice sa NK sc) := cell_of _ _ 1 _ _ hks6.blk
        have HSC : Hid (SC1 w6 w6.heap.size (w6.heap.size + 1) NK 0 ((w6.alloc (.cells (mc (.bool false) 1 NK) 4)).alloc (.map #[] 0))) := by
          have k1 := Keep.alloc (fun _ => False) w6 (.cells (mc (.bool false) 1 NK) 4)
          have e1 := heap_alloc_new w6 (.cells (mc (.bool false) 1 NK) 4)
          have z1 : (w6.alloc (.cells (mc (.bool false) 1 NK) 4)).heap.size = w6.heap.size + 1 := World.size_alloc _ _
          generalize w6.alloc (.cells (mc (.bool false) 1 NK) 4) = v1 at *
          have k2 := Keep.alloc (fun _ => False) v1 (.map #[] 0)
          have e2 := MP.made v1 31
          have z2 : (v1.alloc (.map #[] 0)).heap.size = v1.heap.size + 1 := World.size_alloc _ _
          generalize v1.alloc (.map #[] 0) = v2 at *
          rw [z1] at e2 z2
          refine ⟨fun b => if b = w6.heap.size then 1 else if b = w6.heap.size + 1 then 2 else 0, fun _ => false, fun _ => none, fun _ => 0, fun _ => 0, fun _ _ => 0, 0, ⟨k1.trans k2 (fun _ q => q.elim), fun b q => ?_, by simp, by simp, ⟨fun _ => false, Row.made1 _ _ NK (.bool false) 4 rfl (k2.at e1 id)⟩, ?_, fun _ _ => ⟨rfl, rfl, rfl⟩, fun _ => Vec.nil _ _ _ _, fun t i q => by omega, fun t g q => by simp at q, fun _ => Nat.le_refl _, Nat.le_refl _⟩⟩
          · by_cases e : b = w6.heap.size
            · omega
            · by_cases e' : b = w6.heap.size + 1
              · omega
              · simp [e, e'] at q
          · refine e2.congr (fun l => ?_)
            cases l <;> simp [intM, valF, awF]
        have r86 := fun W => run_mkv 86 4 (.bool false) 1 1 Ybaz.underlying86 inf4 (by omega) W NK (by omega)
        have hmm := fun W => run_makeMap (P := Ybaz.prog) 214 W
        have c3 : ((w6.alloc (.cells (mc (.bool false) 1 NK) 4)).alloc (.map #[] 0)).cell? ⟨B, 0, none⟩ = some (.slice (some ⟨OB, 0, none⟩) M oc) := by
          obtain ⟨_, _, _, _, _, _, _, q⟩ := HSC.out
          exact cell_of _ _ 0 _ _ (q.k.at he6.b3 id)
        clear hks6 he6 hs6 HE2 hK
        go_upto_region 25 with fail
        clear c5 ck r86 hmm c3
        generalize (w6.alloc (.cells (mc (.bool false) 1 NK) 4)).alloc (.map #[] 0) = w7 at *
        obtain ⟨SU, hSU⟩ : ∃ SU, SU = w6.heap.size := ⟨_, rfl⟩
        rw [← hSU] at HSC ⊢
        have HSU : Hid _ := hSU
        clear hSU
        go_wp2
        go_loopg [22, 143] N (fun gk s22 s wr => ∃ (i : Nat) (fv : Int), i ≤ N ∧ s22 = .int .i32 fv ∧ s = .int .i64 (i : Int) ∧ gk = N - i ∧ Hid (SC1 w6 SU (SU + 1) NK i wr))
        case atStart => exact ⟨0, M, Nat.zero_le _, rfl, rfl, rfl, HSC⟩
        case round =>
          clear HSC
          obtain ⟨i, fv, hi, rfl, rfl, rfl, HR⟩ := hrel
          by_cases hlt : i < N
          · as_aux_lemma =>
            -- BEGIN D
            obtain ⟨w8, rfl⟩ : ∃ w8, w8 = wr := ⟨_, rfl⟩
            have i1 : (i : Int) < (N : Int) := by omega
            have i2 : (i : Int).toNat = i := by omega
            obtain ⟨cls, has, awa, ln, awc, av, an, hsc⟩ := HR.out
            have he := HE6.out.keep hsc.k (fun _ q => q.elim)
            have hN2 := he.nm
            have i3 : (N : Int) ≤ 2000 := by omega
            have hqb := he.sl i hlt
            rw [if_neg (show ¬ M = 0 by omega)] at hqb
            obtain ⟨q, hq⟩ : ∃ q : Nat, so i = (q : Int) := ⟨(so i).toNat, by omega⟩
            rw [hq] at hqb
            have hqM : q < M := by omega
            have q1 : (q : Int) < (M : Int) := by omega
            have q2 : (q : Int).toNat = q := by omega
            have es := he.ro.cell i hlt
            rw [hq] at es
            have c3 : w8.cell? ⟨B, 0, none⟩ = some (.slice (some ⟨OB, 0, none⟩) M oc) := cell_of _ _ 0 _ _ he.b3
            have c8 : w8.cell? ⟨B + 4, 0, none⟩ = some (.slice (some ⟨B + 3, 0, none⟩) M M) := cell_of _ _ 0 _ _ he.b8
            have ek := he.row.cell q hqM
            have et := ((HO.out.keep he.k id).cell q hqM).2.1
            have ht := HO.out.ht q hqM
            have hx : ka q < NK := by have := he.kl q; have := he.nk (by omega); omega
            have HSC : Hid _ := hsc
            clear he hsc HR
            go_upto_region 28 with fail
            go_quiet (fail)
            have k8 : Keep (fun _ => False) w8 (w8.drewN nq) := (Keep.refl _ _).drewN nq
            have hsc := HSC.out.quiet k8
            clear c3 c8 ek et es HSC k8
            generalize w8.drewN nq = w9 at *
            have he := HE6.out.keep hsc.k (fun _ q => q.elim)
            have c4 : w9.cell? ⟨B + 1, 0, none⟩ = some (.map (some EM)) := cell_of _ _ 0 _ _ he.b4
            obtain ⟨v, ⟨z, rfl⟩, hL⟩ := (MQ.keep HEM.out he.k id).looks Ybaz.underlying46 zero28 ⟨0, rfl⟩ (tx q) ht.2
            have hL0 := hL w9 (Keep.refl _ _)
            obtain ⟨x, hxe⟩ : ∃ x, x = ka q := ⟨_, rfl⟩
            rw [← hxe] at hx ⊢
            have x1 : (x : Int) < (NK : Int) := by omega
            have x2 : (x : Int).toNat = x := by omega
            have HSC : Hid _ := hsc
            obtain ⟨fb, hfr⟩ := (HS6.out.keep hsc.k (by have := HE6.out.lt; omega) id id).fr
            have cf : w9.cell? ⟨C + 1, 0, none⟩ = some (.slice (some ⟨C, 0, none⟩) M M) := cell_of _ _ 0 _ _ he.bf
            have cfq := hfr.cell q hqM
            obtain ⟨fs, hrs⟩ := hsc.row
            have csu := hrs.cell x hx
            have fsu := hrs.free x
            clear hL he hsc hxe hfr hrs
            by_cases z1 : z = 97
            · subst z1
              have hsc2 := HSC.out.susp x hx
              have HSC2 : Hid _ := hsc2
              have hL2 := hsc2.look (tx q) ht.2
              clear hsc2
              go_upto_region 32 with fail
              clear csu fsu c4 hL0 cf cfq HSC
              generalize w9.setCell ⟨SU, x, none⟩ (.bool true) = w10 at *
              obtain ⟨g5, cap5, w11, hr5, hv5, hk5, hg5, hl5⟩ := run_push (w10.alloc (.cells #[.int .i32 (x : Int)] 21)) 95 21 95 1 4 _ Ybaz.underlying95 inf21 rfl Nat.one_pos (by decide) (awa (tx q)) (ln (tx q)) (awc (tx q)) _ ((HSC2.out.vec (tx q)).alloc _) ⟨w10.heap.size, 0, none⟩ 1 (fun _ => .int .i32 (x : Int)) (new1 w10 _ 21) (fun _ _ => rfl) (by have := HSC2.out.sz (tx q); omega)
              have kal := Keep.alloc (fun _ => False) w10 (.cells #[.int .i32 (x : Int)] 21)
              have hsc3 := HSC2.out.quiet kal
              obtain ⟨w12, hp, hm, hkm, hzm⟩ := (hsc3.mp.keep hk5 (fun e => by have := hsc3.cV _ _ e; have := hsc3.cA; omega)).put keyed31 Ybaz.underlying214 (by have := HSC2.out.an'; unfold maxLen; omega) (tkey (tx q) ht.2) (.slice (some ⟨g5, 0, none⟩) (ln (tx q) + 1) cap5)
              rw [intM_put, valF_put] at hm
              have HF : Hid (SC1 w6 SU (SU + 1) NK (i + 1) w12) := ⟨_, _, _, _, _, _, _, hsc3.push (tx q) x hx hv5 hk5 (or2 hg5 id (fun e => by omega)) hl5 hkm hm⟩
              clear hsc3 kal hm hkm hv5 hk5 hg5 hl5 HSC2 hzm
              go_wp2
              all_goals
                go_roundg (N - (i + 1))
                case measure => omega
                case rel => exact ⟨i + 1, _, by omega, rfl, by go_num, rfl, HF⟩
            · have z1' : (z == 97) = false := by simpa using z1
              by_cases z2 : z = 99
              · subst z2
                cases hfq : fb q with
                | true =>
                  rw [hfq] at cfq
                  have HF : Hid (SC1 w6 SU (SU + 1) NK (i + 1) w9) := ⟨_, _, _, _, _, _, _, HSC.out.more (by omega)⟩
                  clear HSC
                  go_wp2
                  go_roundg (N - (i + 1))
                  case measure => omega
                  case rel => exact ⟨i + 1, _, by omega, rfl, by go_num, rfl, HF⟩
                | false =>
                  rw [hfq] at cfq
                  have HF : Hid (SC1 w6 SU (SU + 1) NK (i + 1) (w9.setCell ⟨SU, x, none⟩ (.bool true))) := ⟨_, _, _, _, _, _, _, (HSC.out.susp x hx).more (by omega)⟩
                  clear HSC
                  go_wp2
                  all_goals
                    go_roundg (N - (i + 1))
                    case measure => omega
                    case rel => exact ⟨i + 1, _, by omega, rfl, by go_num, rfl, HF⟩
              · have z2' : (z == 99) = false := by simpa using z2
                have HF : Hid (SC1 w6 SU (SU + 1) NK (i + 1) w9) := ⟨_, _, _, _, _, _, _, HSC.out.more (by omega)⟩
                clear HSC
                go_wp2
                go_roundg (N - (i + 1))
                case measure => omega
                case rel => exact ⟨i + 1, _, by omega, rfl, by go_num, rfl, HF⟩
            -- END D
          · obtain rfl : N = i := by omega
            have q3 : ¬ (N : Int) < (N : Int) := by omega
            obtain ⟨w7, rfl⟩ : ∃ w7, w7 = wr := ⟨_, rfl⟩
            obtain ⟨cls, has, awa, ln, awc, av, an, hsc⟩ := HR.out
            have he := HE6.out.keep hsc.k (fun _ q => q.elim)
            have hks7 := HS.out.keep he.k id id (fun _ _ => id)
            have c5 : w7.cell? ⟨B + 2, 0, none⟩ = some (.pointer (some ⟨KS, 0, none⟩)) := cell_of _ _ 0 _ _ he.b5
            have ck : w7.cell? ⟨KS, 1, none⟩ = some (.slice sa NK sc) := cell_of _ _ 1 _ _ hks7.blk
            have r62 : (opMk 62 (.int .i64 ((NK : Int) + 1)) (.int .i64 ((NK : Int) + 1))).run Ybaz.prog w7 = .ok (.value (.slice (some ⟨w7.heap.size, 0, none⟩) (NK + 1) (NK + 1))) (w7.alloc (.cells (mc (.int .i64 0) 1 (NK + 1)) 3)) := run_mkv 62 3 (.int .i64 0) 1 8 Ybaz.underlying62 inf3 (by omega) w7 (NK + 1) (by omega)
            have HSC : Hid _ := hsc
            clear he hks7 hsc HR
            go_upto_region 40 with fail
            clear r62 c5 ck
            have k8 := Keep.alloc (fun _ => False) w7 (.cells (mc (.int .i64 0) 1 (NK + 1)) 3)
            have e8 := heap_alloc_new w7 (.cells (mc (.int .i64 0) 1 (NK + 1)) 3)
            have hsc8 := HSC.out.quiet k8
            have HP8 : Hid (∃ f : Nat → Int, Row (w7.alloc (.cells (mc (.int .i64 0) 1 (NK + 1)) 3)) w7.heap.size (NK + 1) (fun i => .int .i64 (f i))) := ⟨fun _ => 0, Row.made1 _ _ (NK + 1) (.int .i64 0) 3 rfl e8⟩
            have HSP : Hid (∀ b, cls b ≠ 0 → b < w7.heap.size) := fun b q => (HSC.out.new b q).2
            have HSPl : Hid (w7.heap.size < (w7.alloc (.cells (mc (.int .i64 0) 1 (NK + 1)) 3)).heap.size) := heap_lt e8
            have HSP6 : Hid (w6.heap.size ≤ w7.heap.size) := HSC.out.k.size
            have HSC8 : Hid _ := hsc8
            clear k8 e8 hsc8 HSC
            generalize w7.alloc (.cells (mc (.int .i64 0) 1 (NK + 1)) 3) = w8 at *
            obtain ⟨SP, hSP⟩ : ∃ SP, SP = w7.heap.size := ⟨_, rfl⟩
            rw [← hSP] at HP8 HSP HSPl HSP6 ⊢
            clear hSP
            go_wp2
            go_loopg [198] NK (fun gk s wr => ∃ i : Nat, i ≤ NK ∧ s = .int .i64 (i : Int) ∧ gk = NK - i ∧ Hid (Keep (fun b => b = SP) w8 wr ∧ ∃ f : Nat → Int, Row wr SP (NK + 1) (fun i => .int .i64 (f i))))
            case atStart => exact ⟨0, Nat.zero_le _, rfl, rfl, Keep.refl _ _, HP8.out⟩
            case round =>
              clear HP8
              obtain ⟨i, hi, rfl, rfl, HR⟩ := hrel
              obtain ⟨w9, rfl⟩ : ∃ w9, w9 = wr := ⟨_, rfl⟩
              by_cases hlt : i < NK
              · as_aux_lemma =>
                -- BEGIN E
                have i1 : (i : Int) < (NK : Int) := by omega
                have i2 : (i : Int).toNat = i := by omega
                have i3 : (i : Int) < (NK : Int) + 1 := by omega
                have i4 : (i : Int) + 1 < (NK : Int) + 1 := by omega
                have i5 : ((i : Int) + 1).toNat = i + 1 := by omega
                obtain ⟨kp, f, hr⟩ := HR.out
                have e0 := hr.cell i (by omega)
                have e1 := hr.cell (i + 1) (by omega)
                have f1 := hr.free (i + 1)
                obtain ⟨fs, hrs⟩ := HSC8.out.row
                have hSU : SU ≠ SP := by have := HSP.out SU (by rw [HSC8.out.cS]; omega); omega
                have es := (kp.cell ⟨SU, i, none⟩ (HSC8.out.new SU (by rw [HSC8.out.cS]; omega)).2 hSU).trans (hrs.cell i hlt)
                have k1 := Keep.setCell w9 ⟨SP, i + 1, none⟩ (.int .i64 (f i))
                have hr1 := hr.set (i + 1) (.int .i64 (f i)) (by omega)
                have e1' := hr1.cell (i + 1) (by omega)
                simp only [if_true] at e1'
                have f1' := hr1.free (i + 1)
                have HK1 : Hid (Keep (fun b => b = SP) w8 (w9.setCell ⟨SP, i + 1, none⟩ (.int .i64 (f i))) ∧ ∃ f' : Nat → Int, Row (w9.setCell ⟨SP, i + 1, none⟩ (.int .i64 (f i))) SP (NK + 1) (fun j => .int .i64 (f' j))) := by
                  refine ⟨kp.trans k1 (fun b q => .inl q), fun j => if j = i + 1 then f i else f j, hr1.congr (fun j _ => ?_)⟩
                  by_cases e : j = i + 1 <;> simp [e]
                clear kp hr hrs k1 hr1 HR
                go_upto_region 44 with fail
                clear e0 e1 f1 es
                generalize w9.setCell ⟨SP, i + 1, none⟩ (.int .i64 (f i)) = w10 at *
                cases fs i with
                | false =>
                  go_wp2
                  go_roundg (NK - (i + 1))
                  case measure => omega
                  case rel => exact ⟨i + 1, by omega, by go_num, rfl, HK1⟩
                | true =>
                  obtain ⟨y, hy⟩ : ∃ y, y = wrap64 (f i + 1) := ⟨_, rfl⟩
                  have HK2 : Hid (Keep (fun b => b = SP) w8 (w10.setCell ⟨SP, i + 1, none⟩ (.int .i64 (wrap64 (f i + 1)))) ∧ ∃ f' : Nat → Int, Row (w10.setCell ⟨SP, i + 1, none⟩ (.int .i64 (wrap64 (f i + 1)))) SP (NK + 1) (fun i => .int .i64 (f' i))) := by
                    obtain ⟨kp, f', hr⟩ := HK1.out
                    refine ⟨kp.trans (Keep.setCell _ _ _) (fun b q => .inl q), fun j => if j = i + 1 then wrap64 (f i + 1) else f' j, (hr.set (i + 1) _ (by omega)).congr (fun j _ => ?_)⟩
                    by_cases e : j = i + 1 <;> simp [e]
                  clear hy y HK1
                  go_wp2
                  go_roundg (NK - (i + 1))
                  case measure => omega
                  case rel => exact ⟨i + 1, by omega, by go_num, rfl, HK2⟩
                -- END E
              · obtain rfl : NK = i := by omega
                have q4 : ¬ (NK : Int) < (NK : Int) := by omega
                have q5 : (NK : Int).toNat = NK := by omega
                have q6 : (NK : Int) < (NK : Int) + 1 := by omega
                obtain ⟨kp, f, hr⟩ := HR.out
                have k69 : Keep (fun b => b = SP) w6 w9 := (HSC8.out.k.wide (fun _ q => q.elim)).trans kp (fun b q => .inl q)
                have hSPC : C + 4 ≤ SP := by have := HE6.out.lt; have := HSP6.out; omega
                have he9 := HE6.out.keep k69 (fun b q => by have : b = SP := q; omega)
                have hks9 := HS.out.keep he9.k id id (fun _ _ => id)
                have c5 : w9.cell? ⟨B + 2, 0, none⟩ = some (.pointer (some ⟨KS, 0, none⟩)) := cell_of _ _ 0 _ _ he9.b5
                have ck : w9.cell? ⟨KS, 1, none⟩ = some (.slice sa NK sc) := cell_of _ _ 1 _ _ hks9.blk
                have es := hr.cell NK (by omega)
                have HM9 : Hid (Marks (C + 4) w9 ds) := HMk.out.keep k69 (fun b _ q => by have : b = SP := q; have := HSP6.out; omega)
                have HE9 : Hid _ := he9
                have HR9 : Hid _ := hr
                have HK9 : Hid _ := kp
                clear hr kp k69 he9 hks9 HR HMk
                by_cases hf0 : f NK = 0
                · rw [hf0] at es
                  go_wp2
                  refine leaves_marks (B := C + 4) ds _ HM9.out (fun W' k => ?_)
                  refine ⟨_, results_tmp2 rfl _ _ _, ⟨none, none, rfl⟩, HE9.out.k.trans k (fun b q => .inr ?_)⟩
                  have := HE9.out.hB
                  have := HE9.out.bC
                  omega
                · have hf0' : (f NK == 0) = false := by simpa using hf0
                  have r215 := fun W => run_mkv 215 95 (.slice none 0 0) 1 24 Ybaz.underlying215 inf95 (by omega) W NK (by omega)
                  have hmm := fun W => run_makeMap (P := Ybaz.prog) 210 W
                  go_upto_region 51 with fail
                  simp only [Nat.add_assoc, Nat.reduceAdd]
                  have HW : Hid (Keep (fun _ => False) w9 ((((w9.alloc (.cells (mc (.slice none 0 0) 1 NK) 95)).alloc (.cells #[.slice (some ⟨w9.heap.size, 0, none⟩) NK NK] 215)).alloc (.map #[] 0)).alloc (.cells #[.map (some (w9.heap.size + 2))] 210)) ∧ Row ((((w9.alloc (.cells (mc (.slice none 0 0) 1 NK) 95)).alloc (.cells #[.slice (some ⟨w9.heap.size, 0, none⟩) NK NK] 215)).alloc (.map #[] 0)).alloc (.cells #[.map (some (w9.heap.size + 2))] 210)) w9.heap.size NK (fun _ => .slice none 0 0) ∧ ((((w9.alloc (.cells (mc (.slice none 0 0) 1 NK) 95)).alloc (.cells #[.slice (some ⟨w9.heap.size, 0, none⟩) NK NK] 215)).alloc (.map #[] 0)).alloc (.cells #[.map (some (w9.heap.size + 2))] 210)).heap[w9.heap.size + 1]? = some (.cells #[.slice (some ⟨w9.heap.size, 0, none⟩) NK NK] 215) ∧ MQ isB ((((w9.alloc (.cells (mc (.slice none 0 0) 1 NK) 95)).alloc (.cells #[.slice (some ⟨w9.heap.size, 0, none⟩) NK NK] 215)).alloc (.map #[] 0)).alloc (.cells #[.map (some (w9.heap.size + 2))] 210)) (w9.heap.size + 2) 0 ∧ ((((w9.alloc (.cells (mc (.slice none 0 0) 1 NK) 95)).alloc (.cells #[.slice (some ⟨w9.heap.size, 0, none⟩) NK NK] 215)).alloc (.map #[] 0)).alloc (.cells #[.map (some (w9.heap.size + 2))] 210)).heap[w9.heap.size + 3]? = some (.cells #[.map (some (w9.heap.size + 2))] 210)) := by
                    have k1 := Keep.alloc (fun _ => False) w9 (.cells (mc (.slice none 0 0) 1 NK) 95)
                    have e1 := heap_alloc_new w9 (.cells (mc (.slice none 0 0) 1 NK) 95)
                    have z1 : (w9.alloc (.cells (mc (.slice none 0 0) 1 NK) 95)).heap.size = w9.heap.size + 1 := World.size_alloc _ _
                    generalize w9.alloc (.cells (mc (.slice none 0 0) 1 NK) 95) = v1 at *
                    have k2 := Keep.alloc (fun _ => False) v1 (.cells #[.slice (some ⟨w9.heap.size, 0, none⟩) NK NK] 215)
                    have e2 := heap_alloc_new v1 (.cells #[.slice (some ⟨w9.heap.size, 0, none⟩) NK NK] 215)
                    have z2 : (v1.alloc (.cells #[.slice (some ⟨w9.heap.size, 0, none⟩) NK NK] 215)).heap.size = v1.heap.size + 1 := World.size_alloc _ _
                    generalize v1.alloc (.cells #[.slice (some ⟨w9.heap.size, 0, none⟩) NK NK] 215) = v2 at *
                    have k3 := Keep.alloc (fun _ => False) v2 (.map #[] 0)
                    have e3 := MQ.made isB v2
                    have z3 : (v2.alloc (.map #[] 0)).heap.size = v2.heap.size + 1 := World.size_alloc _ _
                    generalize v2.alloc (.map #[] 0) = v3 at *
                    have k4 := Keep.alloc (fun _ => False) v3 (.cells #[.map (some (w9.heap.size + 2))] 210)
                    have e4 := heap_alloc_new v3 (.cells #[.map (some (w9.heap.size + 2))] 210)
                    generalize v3.alloc (.cells #[.map (some (w9.heap.size + 2))] 210) = v4 at *
                    rw [z1] at e2 z2
                    rw [z2] at e3 z3
                    rw [z3] at e4
                    exact ⟨((k1.trans k2 (fun _ q => q.elim)).trans k3 (fun _ q => q.elim)).trans k4 (fun _ q => q.elim), Row.made1 _ _ NK (.slice none 0 0) 95 rfl (k4.at (k3.at (k2.at e1 id) id) id), k4.at (k3.at e2 id) id, e3.keep k4 id, e4⟩
                  clear r215 hmm es c5 ck hf0 hf0'
                  generalize ((((w9.alloc (.cells (mc (.slice none 0 0) 1 NK) 95)).alloc (.cells #[.slice (some ⟨w9.heap.size, 0, none⟩) NK NK] 215)).alloc (.map #[] 0)).alloc (.cells #[.map (some (w9.heap.size + 2))] 210)) = w10 at *
                  obtain ⟨Z, hZ⟩ : ∃ Z, Z = w9.heap.size := ⟨_, rfl⟩
                  rw [← hZ] at HW ⊢
                  have HZ : Hid _ := hZ
                  clear hZ
                  have hks10 := HS.out.keep (HE9.out.k.trans HW.out.1 (fun _ q => q.elim)) id id (fun _ _ => id)
                  have he10 := HE9.out.keep HW.out.1 (fun _ q => q.elim)
                  have c5 : w10.cell? ⟨B + 2, 0, none⟩ = some (.pointer (some ⟨KS, 0, none⟩)) := cell_of _ _ 0 _ _ he10.b5
                  have ck : w10.cell? ⟨KS, 1, none⟩ = some (.slice sa NK sc) := cell_of _ _ 1 _ _ hks10.blk
                  have HSk : Hid (∀ W, Keep (fun _ => False) w10 W → W.cell? ⟨B + 2, 0, none⟩ = some (.pointer (some ⟨KS, 0, none⟩)) ∧ W.cell? ⟨KS, 1, none⟩ = some (.slice sa NK sc)) := fun W k => ⟨(k.cell ⟨B + 2, 0, none⟩ (heap_lt he10.b5) id).trans c5, (k.cell ⟨KS, 1, none⟩ (heap_lt hks10.blk) id).trans ck⟩
                  have HNK := fun (_ : Unit) (v : World) => newKSet_any NK v hnk
                  clear hks10 he10
                  go_cut [32, 33] from 236 to 247 (fun s32 s33 wx => ∃ b32 b33 TA TC OV OC cl, s32 = .pointer (some ⟨b32, 0, none⟩) ∧ s33 = .pointer (some ⟨b33, 0, none⟩) ∧ Hid (IK w10 NK (some (TA, TC)) (some (OV, OC)) (some (b32, .pointer (some ⟨TA, 0, none⟩))) (some (b33, .pointer (some ⟨OV, 0, none⟩))) cl wx))
                  case first => as_aux_lemma =>
                    -- BEGIN F
                    refine wp_region_noPanic ?_
                    refine wp_region_held_drew (S := (fun w' => w'.cell? ⟨B + 2, 0, none⟩ = some (.pointer (some ⟨KS, 0, none⟩)) ∧ w'.cell? ⟨KS, 1, none⟩ = some (.slice sa NK sc))) (by kernel_rfl) ⟨c5, ck⟩ (fun hHeld => ?_)
                    refine wpAnyH_take (i := 0) (oi := ?_) (v := ?_) (by simp only [List.getElem?_toArray, List.getElem?_cons_zero]; rfl) (by kernel_rfl) (by kernel_rfl) (by kernel_rfl) (by exact fun _ _ _ h => h) (Or.inl ⟨by rfl, ?_⟩) (by assumption) ?_; rotate_left; (focus (intro w hSw; (try dsimp only at hSw); first | (go_simp; done) | (go_simp; with_reducible rfl))); try simp only [Act.put, List.setIfInBounds_toArray, List.set_cons_zero, List.set_cons_succ]
                    refine wpAnyH_take (i := 1) (oi := ?_) (v := ?_) (by simp only [List.getElem?_toArray, List.getElem?_cons_succ, List.getElem?_cons_zero]; rfl) (by kernel_rfl) (by kernel_rfl) (by kernel_rfl) (by exact fun _ _ _ h => h) (Or.inl ⟨by rfl, ?_⟩) (by assumption) ?_; rotate_left; (focus (intro w hSw; (try dsimp only at hSw); first | (go_simp; done) | (go_simp; with_reducible rfl))); try simp only [Act.put, List.setIfInBounds_toArray, List.set_cons_zero, List.set_cons_succ]
                    refine wpAnyH_take (i := 2) (oi := ?_) (v := ?_) (by simp only [List.getElem?_toArray, List.getElem?_cons_succ, List.getElem?_cons_zero]; rfl) (by kernel_rfl) (by kernel_rfl) (by kernel_rfl) (by exact fun _ _ _ h => h) (Or.inl ⟨by rfl, ?_⟩) (by assumption) ?_; rotate_left; (focus (intro w hSw; (try dsimp only at hSw); first | (go_simp; done) | (go_simp; with_reducible rfl))); try simp only [Act.put, List.setIfInBounds_toArray, List.set_cons_zero, List.set_cons_succ]
                    refine wpAnyH_take (i := 3) (oi := ?_) (v := ?_) (by simp only [List.getElem?_toArray, List.getElem?_cons_succ, List.getElem?_cons_zero]; rfl) (by kernel_rfl) (by kernel_rfl) (by kernel_rfl) (by exact fun _ _ _ h => h) (Or.inl ⟨by rfl, ?_⟩) (by assumption) ?_; rotate_left; (focus (intro w hSw; (try dsimp only at hSw); first | (go_simp; done) | (go_simp; with_reducible rfl))); try simp only [Act.put, List.setIfInBounds_toArray, List.set_cons_zero, List.set_cons_succ]
                    refine wpAnyH_take (i := 4) (oi := ?_) (v := ?_) (by simp only [List.getElem?_toArray, List.getElem?_cons_succ, List.getElem?_cons_zero]; rfl) (by kernel_rfl) (by kernel_rfl) (by kernel_rfl) (by exact fun _ _ _ h => h) (Or.inl ⟨by rfl, ?_⟩) (by assumption) ?_; rotate_left; (focus (intro w hSw; (try dsimp only at hSw); first | (go_simp; done) | (go_simp; with_reducible rfl))); try simp only [Act.put, List.setIfInBounds_toArray, List.set_cons_zero, List.set_cons_succ]
                    refine wpAnyH_take (i := 6) (oi := ?_) (v := ?_) (by simp only [List.getElem?_toArray, List.getElem?_cons_succ, List.getElem?_cons_zero]; rfl) (by kernel_rfl) (by kernel_rfl) (by kernel_rfl) (by exact fun _ _ _ h => h) (Or.inl ⟨by rfl, ?_⟩) (by assumption) ?_; rotate_left; (focus (intro w hSw; (try dsimp only at hSw); first | (go_simp; done) | (go_simp; with_reducible rfl))); try simp only [Act.put, List.setIfInBounds_toArray, List.set_cons_zero, List.set_cons_succ]
                    refine wpAnyH_take (i := 7) (oi := ?_) (v := ?_) (by simp only [List.getElem?_toArray, List.getElem?_cons_succ, List.getElem?_cons_zero]; rfl) (by kernel_rfl) (by kernel_rfl) (by kernel_rfl) (by exact fun _ _ _ h => h) (Or.inl ⟨by rfl, ?_⟩) (by assumption) ?_; rotate_left; (focus (intro w hSw; (try dsimp only at hSw); first | (go_simp; done) | (go_simp; with_reducible rfl))); try simp only [Act.put, List.setIfInBounds_toArray, List.set_cons_zero, List.set_cons_succ]
                    refine wpAnyH_take (i := 8) (oi := ?_) (v := ?_) (by simp only [List.getElem?_toArray, List.getElem?_cons_succ, List.getElem?_cons_zero]; rfl) (by kernel_rfl) (by kernel_rfl) (by kernel_rfl) (by exact fun _ _ _ h => h) (Or.inl ⟨by rfl, ?_⟩) (by assumption) ?_; rotate_left; (focus (intro w hSw; (try dsimp only at hSw); first | (go_simp; done) | (go_simp; with_reducible rfl))); try simp only [Act.put, List.setIfInBounds_toArray, List.set_cons_zero, List.set_cons_succ]
                    refine wpAnyH_take (i := 9) (oi := ?_) (v := ?_) (by simp only [List.getElem?_toArray, List.getElem?_cons_succ, List.getElem?_cons_zero]; rfl) (by kernel_rfl) (by kernel_rfl) (by kernel_rfl) (by exact fun _ _ _ h => h) (Or.inl ⟨by rfl, ?_⟩) (by assumption) ?_; rotate_left; (focus (intro w hSw; (try dsimp only at hSw); first | (go_simp; done) | (go_simp; with_reducible rfl))); try simp only [Act.put, List.setIfInBounds_toArray, List.set_cons_zero, List.set_cons_succ]
                    refine wpAnyH_take (i := 10) (oi := ?_) (v := ?_) (by simp only [List.getElem?_toArray, List.getElem?_cons_succ, List.getElem?_cons_zero]; rfl) (by kernel_rfl) (by kernel_rfl) (by kernel_rfl) (by exact fun _ _ _ h => h) (Or.inl ⟨by rfl, ?_⟩) (by assumption) ?_; rotate_left; (focus (intro w hSw; (try dsimp only at hSw); first | (go_simp; done) | (go_simp; with_reducible rfl))); try simp only [Act.put, List.setIfInBounds_toArray, List.set_cons_zero, List.set_cons_succ]
                    have HI0 : Hid (IK w10 NK none none none none (fun _ => 0) w10.drew) := ⟨(Keep.refl _ _).drew, fun b q => absurd rfl q, fun A C e => by simp at e, fun A C e => by simp at e, fun V x e => by simp at e, fun V x e => by simp at e⟩
                    clear c5 ck
                    generalize w10.drew = x0 at *
                    refine wpAnyH_ready (rs := [5, 12, 13]) (by kernel_rfl) (by simp) ?_
                    refine (AllReadyH.cons (o := ?_) (by simp only [List.getElem?_toArray, List.getElem?_cons_succ, List.getElem?_cons_zero]; rfl) (fun K hK => ?_) (AllReadyH.cons (o := ?_) (by simp only [List.getElem?_toArray, List.getElem?_cons_succ, List.getElem?_cons_zero]; rfl) (fun K hK => ?_) (AllReadyH.cons (o := ?_) (by simp only [List.getElem?_toArray, List.getElem?_cons_succ, List.getElem?_cons_zero]; rfl) (fun K hK => ?_) AllReadyH.nil)))
                    · go_simp
                      go_at_call 122
                      refine (HNK () _).mono ?_
                      rintro e x1 ⟨⟨A5, C5, rfl, s1, l1, m1⟩, k1⟩
                      have HI1 : Hid _ := HI0.out.set5 k1 s1 l1 m1
                      dsimp only
                      refine hK.out _ _ (HSk.out _ HI1.out.k) (fun hHeld1 => ?_)
                      clear hK K s1 l1 m1 k1 HI0
                      try simp only [Act.put, List.setIfInBounds_toArray, List.set_cons_zero, List.set_cons_succ]
                      refine wpAnyH_ready (rs := [11, 12, 13]) (by kernel_rfl) (by simp) ?_
                      refine (AllReadyH.cons (o := ?_) (by simp only [List.getElem?_toArray, List.getElem?_cons_succ, List.getElem?_cons_zero]; rfl) (fun K hK => ?_) (AllReadyH.cons (o := ?_) (by simp only [List.getElem?_toArray, List.getElem?_cons_succ, List.getElem?_cons_zero]; rfl) (fun K hK => ?_) (AllReadyH.cons (o := ?_) (by simp only [List.getElem?_toArray, List.getElem?_cons_succ, List.getElem?_cons_zero]; rfl) (fun K hK => ?_) AllReadyH.nil)))
                      · go_simp
                        go_at_call 122
                        refine (HNK () _).mono ?_
                        rintro e x2 ⟨⟨A11, C11, rfl, s2, l2, m2⟩, k2⟩
                        have HI2 : Hid _ := HI1.out.set11 k2 s2 l2 m2
                        dsimp only
                        refine hK.out _ _ (HSk.out _ HI2.out.k) (fun hHeld2 => ?_)
                        clear hK K s2 l2 m2 k2 HI1
                        try simp only [Act.put, List.setIfInBounds_toArray, List.set_cons_zero, List.set_cons_succ]
                        refine wpAnyH_ready (rs := [12, 13]) (by kernel_rfl) (by simp) ?_
                        refine (AllReadyH.cons (o := ?_) (by simp only [List.getElem?_toArray, List.getElem?_cons_succ, List.getElem?_cons_zero]; rfl) (fun K hK => ?_) (AllReadyH.cons (o := ?_) (by simp only [List.getElem?_toArray, List.getElem?_cons_succ, List.getElem?_cons_zero]; rfl) (fun K hK => ?_) AllReadyH.nil))
                        · go_simp
                          have hi3 := HI2.out.al12
                          refine hK.out _ _ (HSk.out _ hi3.k) (fun hHeld3 => ?_)
                          clear hK K hHeld3
                          have HI3 : Hid _ := hi3
                          clear hi3 HI2
                          generalize x2.alloc (.cells #[.pointer none] 216) = x3 at *
                          generalize x2.heap.size = V12 at *
                          try simp only [Act.put, List.setIfInBounds_toArray, List.set_cons_zero, List.set_cons_succ]
                          refine wpAnyH_ready (rs := [13]) (by kernel_rfl) (by simp) ?_
                          refine (AllReadyH.cons (o := ?_) (by simp only [List.getElem?_toArray, List.getElem?_cons_succ, List.getElem?_cons_zero]; rfl) (fun K hK => ?_) AllReadyH.nil)
                          · go_simp
                            have hi4 := HI3.out.al13
                            refine hK.out _ _ (HSk.out _ hi4.k) (fun hHeld4 => ?_)
                            clear hK K hHeld4
                            have HI4 : Hid _ := hi4
                            clear hi4 HI3
                            generalize x3.alloc (.cells #[.pointer none] 216) = x4 at *
                            generalize x3.heap.size = V13 at *
                            try simp only [Act.put, List.setIfInBounds_toArray, List.set_cons_zero, List.set_cons_succ]
                            have bc5 : x4.cell? ⟨V12, 0, none⟩ = some (.pointer none) := cell_of _ _ 0 _ _ (HI4.out.h12 V12 _ rfl).2
                            have bf5 : x4.frozen? ⟨V12, 0, none⟩ = false := free_of _ _ 0 _ _ (HI4.out.h12 V12 _ rfl).2
                            have hi5 := HI4.out.st14 (.pointer (some ⟨A5, 0, none⟩))
                            refine wpAnyH_ready (rs := [14]) (by kernel_rfl) (by simp) ?_
                            refine AllReadyH.cons (o := ?_) (by simp only [List.getElem?_toArray, List.getElem?_cons_succ, List.getElem?_cons_zero]; rfl) (fun K hK => ?_) AllReadyH.nil
                            go_simp
                            refine hK.out _ _ (HSk.out _ hi5.k) (fun hHeld5 => ?_)
                            clear hK K hHeld5 bc5 bf5
                            have HI5 : Hid _ := hi5
                            clear hi5 HI4
                            generalize x4.setCell ⟨V12, 0, none⟩ (.pointer (some ⟨A5, 0, none⟩)) = x5 at *
                            try simp only [Act.put, List.setIfInBounds_toArray, List.set_cons_zero, List.set_cons_succ]
                            have bc6 : x5.cell? ⟨V13, 0, none⟩ = some (.pointer none) := cell_of _ _ 0 _ _ (HI5.out.h13 V13 _ rfl).2
                            have bf6 : x5.frozen? ⟨V13, 0, none⟩ = false := free_of _ _ 0 _ _ (HI5.out.h13 V13 _ rfl).2
                            have hi6 := HI5.out.st15 (.pointer (some ⟨A11, 0, none⟩))
                            refine wpAnyH_ready (rs := [15]) (by kernel_rfl) (by simp) ?_
                            refine AllReadyH.cons (o := ?_) (by simp only [List.getElem?_toArray, List.getElem?_cons_succ, List.getElem?_cons_zero]; rfl) (fun K hK => ?_) AllReadyH.nil
                            go_simp
                            refine hK.out _ _ (HSk.out _ hi6.k) (fun hHeld6 => ?_)
                            clear hK K hHeld6 bc6 bf6
                            have HI6 : Hid _ := hi6
                            clear hi6 HI5
                            generalize x5.setCell ⟨V13, 0, none⟩ (.pointer (some ⟨A11, 0, none⟩)) = x6 at *
                            try simp only [Act.put, List.setIfInBounds_toArray, List.set_cons_zero, List.set_cons_succ]
                            refine wpAnyH_done (by kernel_rfl) ?_ _
                            refine NoPanic.normal ?_
                            go_wp2
                            go_meet
                            exact ⟨V12, V13, A5, C5, A11, C11, _, rfl, rfl, HI6⟩
                        · go_simp
                          have hi7 := HI2.out.al13
                          refine hK.out _ _ (HSk.out _ hi7.k) (fun hHeld7 => ?_)
                          clear hK K hHeld7
                          have HI7 : Hid _ := hi7
                          clear hi7 HI2
                          generalize x2.alloc (.cells #[.pointer none] 216) = x7 at *
                          generalize x2.heap.size = V13 at *
                          try simp only [Act.put, List.setIfInBounds_toArray, List.set_cons_zero, List.set_cons_succ]
                          refine wpAnyH_ready (rs := [12]) (by kernel_rfl) (by simp) ?_
                          refine (AllReadyH.cons (o := ?_) (by simp only [List.getElem?_toArray, List.getElem?_cons_succ, List.getElem?_cons_zero]; rfl) (fun K hK => ?_) AllReadyH.nil)
                          · go_simp
                            have hi8 := HI7.out.al12
                            refine hK.out _ _ (HSk.out _ hi8.k) (fun hHeld8 => ?_)
                            clear hK K hHeld8
                            have HI8 : Hid _ := hi8
                            clear hi8 HI7
                            generalize x7.alloc (.cells #[.pointer none] 216) = x8 at *
                            generalize x7.heap.size = V12 at *
                            try simp only [Act.put, List.setIfInBounds_toArray, List.set_cons_zero, List.set_cons_succ]
                            have bc9 : x8.cell? ⟨V12, 0, none⟩ = some (.pointer none) := cell_of _ _ 0 _ _ (HI8.out.h12 V12 _ rfl).2
                            have bf9 : x8.frozen? ⟨V12, 0, none⟩ = false := free_of _ _ 0 _ _ (HI8.out.h12 V12 _ rfl).2
                            have hi9 := HI8.out.st14 (.pointer (some ⟨A5, 0, none⟩))
                            refine wpAnyH_ready (rs := [14]) (by kernel_rfl) (by simp) ?_
                            refine AllReadyH.cons (o := ?_) (by simp only [List.getElem?_toArray, List.getElem?_cons_succ, List.getElem?_cons_zero]; rfl) (fun K hK => ?_) AllReadyH.nil
                            go_simp
                            refine hK.out _ _ (HSk.out _ hi9.k) (fun hHeld9 => ?_)
                            clear hK K hHeld9 bc9 bf9
                            have HI9 : Hid _ := hi9
                            clear hi9 HI8
                            generalize x8.setCell ⟨V12, 0, none⟩ (.pointer (some ⟨A5, 0, none⟩)) = x9 at *
                            try simp only [Act.put, List.setIfInBounds_toArray, List.set_cons_zero, List.set_cons_succ]
                            have bc10 : x9.cell? ⟨V13, 0, none⟩ = some (.pointer none) := cell_of _ _ 0 _ _ (HI9.out.h13 V13 _ rfl).2
                            have bf10 : x9.frozen? ⟨V13, 0, none⟩ = false := free_of _ _ 0 _ _ (HI9.out.h13 V13 _ rfl).2
                            have hi10 := HI9.out.st15 (.pointer (some ⟨A11, 0, none⟩))
                            refine wpAnyH_ready (rs := [15]) (by kernel_rfl) (by simp) ?_
                            refine AllReadyH.cons (o := ?_) (by simp only [List.getElem?_toArray, List.getElem?_cons_succ, List.getElem?_cons_zero]; rfl) (fun K hK => ?_) AllReadyH.nil
                            go_simp
                            refine hK.out _ _ (HSk.out _ hi10.k) (fun hHeld10 => ?_)
                            clear hK K hHeld10 bc10 bf10
                            have HI10 : Hid _ := hi10
                            clear hi10 HI9
                            generalize x9.setCell ⟨V13, 0, none⟩ (.pointer (some ⟨A11, 0, none⟩)) = x10 at *
                            try simp only [Act.put, List.setIfInBounds_toArray, List.set_cons_zero, List.set_cons_succ]
                            refine wpAnyH_done (by kernel_rfl) ?_ _
                            refine NoPanic.normal ?_
                            go_wp2
                            go_meet
                            exact ⟨V12, V13, A5, C5, A11, C11, _, rfl, rfl, HI10⟩
                      · go_simp
                        have hi11 := HI1.out.al12
                        refine hK.out _ _ (HSk.out _ hi11.k) (fun hHeld11 => ?_)
                        clear hK K hHeld11
                        have HI11 : Hid _ := hi11
                        clear hi11 HI1
                        generalize x1.alloc (.cells #[.pointer none] 216) = x11 at *
                        generalize x1.heap.size = V12 at *
                        try simp only [Act.put, List.setIfInBounds_toArray, List.set_cons_zero, List.set_cons_succ]
                        refine wpAnyH_ready (rs := [11, 13]) (by kernel_rfl) (by simp) ?_
                        refine (AllReadyH.cons (o := ?_) (by simp only [List.getElem?_toArray, List.getElem?_cons_succ, List.getElem?_cons_zero]; rfl) (fun K hK => ?_) (AllReadyH.cons (o := ?_) (by simp only [List.getElem?_toArray, List.getElem?_cons_succ, List.getElem?_cons_zero]; rfl) (fun K hK => ?_) AllReadyH.nil))
                        · go_simp
                          go_at_call 122
                          refine (HNK () _).mono ?_
                          rintro e x12 ⟨⟨A11, C11, rfl, s12, l12, m12⟩, k12⟩
                          have HI12 : Hid _ := HI11.out.set11 k12 s12 l12 m12
                          dsimp only
                          refine hK.out _ _ (HSk.out _ HI12.out.k) (fun hHeld12 => ?_)
                          clear hK K s12 l12 m12 k12 HI11
                          try simp only [Act.put, List.setIfInBounds_toArray, List.set_cons_zero, List.set_cons_succ]
                          refine wpAnyH_ready (rs := [13]) (by kernel_rfl) (by simp) ?_
                          refine (AllReadyH.cons (o := ?_) (by simp only [List.getElem?_toArray, List.getElem?_cons_succ, List.getElem?_cons_zero]; rfl) (fun K hK => ?_) AllReadyH.nil)
                          · go_simp
                            have hi13 := HI12.out.al13
                            refine hK.out _ _ (HSk.out _ hi13.k) (fun hHeld13 => ?_)
                            clear hK K hHeld13
                            have HI13 : Hid _ := hi13
                            clear hi13 HI12
                            generalize x12.alloc (.cells #[.pointer none] 216) = x13 at *
                            generalize x12.heap.size = V13 at *
                            try simp only [Act.put, List.setIfInBounds_toArray, List.set_cons_zero, List.set_cons_succ]
                            have bc14 : x13.cell? ⟨V12, 0, none⟩ = some (.pointer none) := cell_of _ _ 0 _ _ (HI13.out.h12 V12 _ rfl).2
                            have bf14 : x13.frozen? ⟨V12, 0, none⟩ = false := free_of _ _ 0 _ _ (HI13.out.h12 V12 _ rfl).2
                            have hi14 := HI13.out.st14 (.pointer (some ⟨A5, 0, none⟩))
                            refine wpAnyH_ready (rs := [14]) (by kernel_rfl) (by simp) ?_
                            refine AllReadyH.cons (o := ?_) (by simp only [List.getElem?_toArray, List.getElem?_cons_succ, List.getElem?_cons_zero]; rfl) (fun K hK => ?_) AllReadyH.nil
                            go_simp
                            refine hK.out _ _ (HSk.out _ hi14.k) (fun hHeld14 => ?_)
                            clear hK K hHeld14 bc14 bf14
                            have HI14 : Hid _ := hi14
                            clear hi14 HI13
                            generalize x13.setCell ⟨V12, 0, none⟩ (.pointer (some ⟨A5, 0, none⟩)) = x14 at *
                            try simp only [Act.put, List.setIfInBounds_toArray, List.set_cons_zero, List.set_cons_succ]
                            have bc15 : x14.cell? ⟨V13, 0, none⟩ = some (.pointer none) := cell_of _ _ 0 _ _ (HI14.out.h13 V13 _ rfl).2
                            have bf15 : x14.frozen? ⟨V13, 0, none⟩ = false := free_of _ _ 0 _ _ (HI14.out.h13 V13 _ rfl).2
                            have hi15 := HI14.out.st15 (.pointer (some ⟨A11, 0, none⟩))
                            refine wpAnyH_ready (rs := [15]) (by kernel_rfl) (by simp) ?_
                            refine AllReadyH.cons (o := ?_) (by simp only [List.getElem?_toArray, List.getElem?_cons_succ, List.getElem?_cons_zero]; rfl) (fun K hK => ?_) AllReadyH.nil
                            go_simp
                            refine hK.out _ _ (HSk.out _ hi15.k) (fun hHeld15 => ?_)
                            clear hK K hHeld15 bc15 bf15
                            have HI15 : Hid _ := hi15
                            clear hi15 HI14
                            generalize x14.setCell ⟨V13, 0, none⟩ (.pointer (some ⟨A11, 0, none⟩)) = x15 at *
                            try simp only [Act.put, List.setIfInBounds_toArray, List.set_cons_zero, List.set_cons_succ]
                            refine wpAnyH_done (by kernel_rfl) ?_ _
                            refine NoPanic.normal ?_
                            go_wp2
                            go_meet
                            exact ⟨V12, V13, A5, C5, A11, C11, _, rfl, rfl, HI15⟩
                        · go_simp
                          have hi16 := HI11.out.al13
                          refine hK.out _ _ (HSk.out _ hi16.k) (fun hHeld16 => ?_)
                          clear hK K hHeld16
                          have HI16 : Hid _ := hi16
                          clear hi16 HI11
                          generalize x11.alloc (.cells #[.pointer none] 216) = x16 at *
                          generalize x11.heap.size = V13 at *
                          try simp only [Act.put, List.setIfInBounds_toArray, List.set_cons_zero, List.set_cons_succ]
                          refine wpAnyH_ready (rs := [11]) (by kernel_rfl) (by simp) ?_
                          refine (AllReadyH.cons (o := ?_) (by simp only [List.getElem?_toArray, List.getElem?_cons_succ, List.getElem?_cons_zero]; rfl) (fun K hK => ?_) AllReadyH.nil)
                          · go_simp
                            go_at_call 122
                            refine (HNK () _).mono ?_
                            rintro e x17 ⟨⟨A11, C11, rfl, s17, l17, m17⟩, k17⟩
                            have HI17 : Hid _ := HI16.out.set11 k17 s17 l17 m17
                            dsimp only
                            refine hK.out _ _ (HSk.out _ HI17.out.k) (fun hHeld17 => ?_)
                            clear hK K s17 l17 m17 k17 HI16
                            try simp only [Act.put, List.setIfInBounds_toArray, List.set_cons_zero, List.set_cons_succ]
                            have bc18 : x17.cell? ⟨V12, 0, none⟩ = some (.pointer none) := cell_of _ _ 0 _ _ (HI17.out.h12 V12 _ rfl).2
                            have bf18 : x17.frozen? ⟨V12, 0, none⟩ = false := free_of _ _ 0 _ _ (HI17.out.h12 V12 _ rfl).2
                            have hi18 := HI17.out.st14 (.pointer (some ⟨A5, 0, none⟩))
                            refine wpAnyH_ready (rs := [14]) (by kernel_rfl) (by simp) ?_
                            refine AllReadyH.cons (o := ?_) (by simp only [List.getElem?_toArray, List.getElem?_cons_succ, List.getElem?_cons_zero]; rfl) (fun K hK => ?_) AllReadyH.nil
                            go_simp
                            refine hK.out _ _ (HSk.out _ hi18.k) (fun hHeld18 => ?_)
                            clear hK K hHeld18 bc18 bf18
                            have HI18 : Hid _ := hi18
                            clear hi18 HI17
                            generalize x17.setCell ⟨V12, 0, none⟩ (.pointer (some ⟨A5, 0, none⟩)) = x18 at *
                            try simp only [Act.put, List.setIfInBounds_toArray, List.set_cons_zero, List.set_cons_succ]
                            have bc19 : x18.cell? ⟨V13, 0, none⟩ = some (.pointer none) := cell_of _ _ 0 _ _ (HI18.out.h13 V13 _ rfl).2
                            have bf19 : x18.frozen? ⟨V13, 0, none⟩ = false := free_of _ _ 0 _ _ (HI18.out.h13 V13 _ rfl).2
                            have hi19 := HI18.out.st15 (.pointer (some ⟨A11, 0, none⟩))
                            refine wpAnyH_ready (rs := [15]) (by kernel_rfl) (by simp) ?_
                            refine AllReadyH.cons (o := ?_) (by simp only [List.getElem?_toArray, List.getElem?_cons_succ, List.getElem?_cons_zero]; rfl) (fun K hK => ?_) AllReadyH.nil
                            go_simp
                            refine hK.out _ _ (HSk.out _ hi19.k) (fun hHeld19 => ?_)
                            clear hK K hHeld19 bc19 bf19
                            have HI19 : Hid _ := hi19
                            clear hi19 HI18
                            generalize x18.setCell ⟨V13, 0, none⟩ (.pointer (some ⟨A11, 0, none⟩)) = x19 at *
                            try simp only [Act.put, List.setIfInBounds_toArray, List.set_cons_zero, List.set_cons_succ]
                            refine wpAnyH_done (by kernel_rfl) ?_ _
                            refine NoPanic.normal ?_
                            go_wp2
                            go_meet
                            exact ⟨V12, V13, A5, C5, A11, C11, _, rfl, rfl, HI19⟩
                      · go_simp
                        have hi20 := HI1.out.al13
                        refine hK.out _ _ (HSk.out _ hi20.k) (fun hHeld20 => ?_)
                        clear hK K hHeld20
                        have HI20 : Hid _ := hi20
                        clear hi20 HI1
                        generalize x1.alloc (.cells #[.pointer none] 216) = x20 at *
                        generalize x1.heap.size = V13 at *
                        try simp only [Act.put, List.setIfInBounds_toArray, List.set_cons_zero, List.set_cons_succ]
                        refine wpAnyH_ready (rs := [11, 12]) (by kernel_rfl) (by simp) ?_
                        refine (AllReadyH.cons (o := ?_) (by simp only [List.getElem?_toArray, List.getElem?_cons_succ, List.getElem?_cons_zero]; rfl) (fun K hK => ?_) (AllReadyH.cons (o := ?_) (by simp only [List.getElem?_toArray, List.getElem?_cons_succ, List.getElem?_cons_zero]; rfl) (fun K hK => ?_) AllReadyH.nil))
                        · go_simp
                          go_at_call 122
                          refine (HNK () _).mono ?_
                          rintro e x21 ⟨⟨A11, C11, rfl, s21, l21, m21⟩, k21⟩
                          have HI21 : Hid _ := HI20.out.set11 k21 s21 l21 m21
                          dsimp only
                          refine hK.out _ _ (HSk.out _ HI21.out.k) (fun hHeld21 => ?_)
                          clear hK K s21 l21 m21 k21 HI20
                          try simp only [Act.put, List.setIfInBounds_toArray, List.set_cons_zero, List.set_cons_succ]
                          refine wpAnyH_ready (rs := [12]) (by kernel_rfl) (by simp) ?_
                          refine (AllReadyH.cons (o := ?_) (by simp only [List.getElem?_toArray, List.getElem?_cons_succ, List.getElem?_cons_zero]; rfl) (fun K hK => ?_) AllReadyH.nil)
                          · go_simp
                            have hi22 := HI21.out.al12
                            refine hK.out _ _ (HSk.out _ hi22.k) (fun hHeld22 => ?_)
                            clear hK K hHeld22
                            have HI22 : Hid _ := hi22
                            clear hi22 HI21
                            generalize x21.alloc (.cells #[.pointer none] 216) = x22 at *
                            generalize x21.heap.size = V12 at *
                            try simp only [Act.put, List.setIfInBounds_toArray, List.set_cons_zero, List.set_cons_succ]
                            have bc23 : x22.cell? ⟨V12, 0, none⟩ = some (.pointer none) := cell_of _ _ 0 _ _ (HI22.out.h12 V12 _ rfl).2
                            have bf23 : x22.frozen? ⟨V12, 0, none⟩ = false := free_of _ _ 0 _ _ (HI22.out.h12 V12 _ rfl).2
                            have hi23 := HI22.out.st14 (.pointer (some ⟨A5, 0, none⟩))
                            refine wpAnyH_ready (rs := [14]) (by kernel_rfl) (by simp) ?_
                            refine AllReadyH.cons (o := ?_) (by simp only [List.getElem?_toArray, List.getElem?_cons_succ, List.getElem?_cons_zero]; rfl) (fun K hK => ?_) AllReadyH.nil
                            go_simp
                            refine hK.out _ _ (HSk.out _ hi23.k) (fun hHeld23 => ?_)
                            clear hK K hHeld23 bc23 bf23
                            have HI23 : Hid _ := hi23
                            clear hi23 HI22
                            generalize x22.setCell ⟨V12, 0, none⟩ (.pointer (some ⟨A5, 0, none⟩)) = x23 at *
                            try simp only [Act.put, List.setIfInBounds_toArray, List.set_cons_zero, List.set_cons_succ]
                            have bc24 : x23.cell? ⟨V13, 0, none⟩ = some (.pointer none) := cell_of _ _ 0 _ _ (HI23.out.h13 V13 _ rfl).2
                            have bf24 : x23.frozen? ⟨V13, 0, none⟩ = false := free_of _ _ 0 _ _ (HI23.out.h13 V13 _ rfl).2
                            have hi24 := HI23.out.st15 (.pointer (some ⟨A11, 0, none⟩))
                            refine wpAnyH_ready (rs := [15]) (by kernel_rfl) (by simp) ?_
                            refine AllReadyH.cons (o := ?_) (by simp only [List.getElem?_toArray, List.getElem?_cons_succ, List.getElem?_cons_zero]; rfl) (fun K hK => ?_) AllReadyH.nil
                            go_simp
                            refine hK.out _ _ (HSk.out _ hi24.k) (fun hHeld24 => ?_)
                            clear hK K hHeld24 bc24 bf24
                            have HI24 : Hid _ := hi24
                            clear hi24 HI23
                            generalize x23.setCell ⟨V13, 0, none⟩ (.pointer (some ⟨A11, 0, none⟩)) = x24 at *
                            try simp only [Act.put, List.setIfInBounds_toArray, List.set_cons_zero, List.set_cons_succ]
                            refine wpAnyH_done (by kernel_rfl) ?_ _
                            refine NoPanic.normal ?_
                            go_wp2
                            go_meet
                            exact ⟨V12, V13, A5, C5, A11, C11, _, rfl, rfl, HI24⟩
                        · go_simp
                          have hi25 := HI20.out.al12
                          refine hK.out _ _ (HSk.out _ hi25.k) (fun hHeld25 => ?_)
                          clear hK K hHeld25
                          have HI25 : Hid _ := hi25
                          clear hi25 HI20
                          generalize x20.alloc (.cells #[.pointer none] 216) = x25 at *
                          generalize x20.heap.size = V12 at *
                          try simp only [Act.put, List.setIfInBounds_toArray, List.set_cons_zero, List.set_cons_succ]
                          refine wpAnyH_ready (rs := [11]) (by kernel_rfl) (by simp) ?_
                          refine (AllReadyH.cons (o := ?_) (by simp only [List.getElem?_toArray, List.getElem?_cons_succ, List.getElem?_cons_zero]; rfl) (fun K hK => ?_) AllReadyH.nil)
                          · go_simp
                            go_at_call 122
                            refine (HNK () _).mono ?_
                            rintro e x26 ⟨⟨A11, C11, rfl, s26, l26, m26⟩, k26⟩
                            have HI26 : Hid _ := HI25.out.set11 k26 s26 l26 m26
                            dsimp only
                            refine hK.out _ _ (HSk.out _ HI26.out.k) (fun hHeld26 => ?_)
                            clear hK K s26 l26 m26 k26 HI25
                            try simp only [Act.put, List.setIfInBounds_toArray, List.set_cons_zero, List.set_cons_succ]
                            have bc27 : x26.cell? ⟨V12, 0, none⟩ = some (.pointer none) := cell_of _ _ 0 _ _ (HI26.out.h12 V12 _ rfl).2
                            have bf27 : x26.frozen? ⟨V12, 0, none⟩ = false := free_of _ _ 0 _ _ (HI26.out.h12 V12 _ rfl).2
                            have hi27 := HI26.out.st14 (.pointer (some ⟨A5, 0, none⟩))
                            refine wpAnyH_ready (rs := [14]) (by kernel_rfl) (by simp) ?_
                            refine AllReadyH.cons (o := ?_) (by simp only [List.getElem?_toArray, List.getElem?_cons_succ, List.getElem?_cons_zero]; rfl) (fun K hK => ?_) AllReadyH.nil
                            go_simp
                            refine hK.out _ _ (HSk.out _ hi27.k) (fun hHeld27 => ?_)
                            clear hK K hHeld27 bc27 bf27
                            have HI27 : Hid _ := hi27
                            clear hi27 HI26
                            generalize x26.setCell ⟨V12, 0, none⟩ (.pointer (some ⟨A5, 0, none⟩)) = x27 at *
                            try simp only [Act.put, List.setIfInBounds_toArray, List.set_cons_zero, List.set_cons_succ]
                            have bc28 : x27.cell? ⟨V13, 0, none⟩ = some (.pointer none) := cell_of _ _ 0 _ _ (HI27.out.h13 V13 _ rfl).2
                            have bf28 : x27.frozen? ⟨V13, 0, none⟩ = false := free_of _ _ 0 _ _ (HI27.out.h13 V13 _ rfl).2
                            have hi28 := HI27.out.st15 (.pointer (some ⟨A11, 0, none⟩))
                            refine wpAnyH_ready (rs := [15]) (by kernel_rfl) (by simp) ?_
                            refine AllReadyH.cons (o := ?_) (by simp only [List.getElem?_toArray, List.getElem?_cons_succ, List.getElem?_cons_zero]; rfl) (fun K hK => ?_) AllReadyH.nil
                            go_simp
                            refine hK.out _ _ (HSk.out _ hi28.k) (fun hHeld28 => ?_)
                            clear hK K hHeld28 bc28 bf28
                            have HI28 : Hid _ := hi28
                            clear hi28 HI27
                            generalize x27.setCell ⟨V13, 0, none⟩ (.pointer (some ⟨A11, 0, none⟩)) = x28 at *
                            try simp only [Act.put, List.setIfInBounds_toArray, List.set_cons_zero, List.set_cons_succ]
                            refine wpAnyH_done (by kernel_rfl) ?_ _
                            refine NoPanic.normal ?_
                            go_wp2
                            go_meet
                            exact ⟨V12, V13, A5, C5, A11, C11, _, rfl, rfl, HI28⟩
                    · go_simp
                      have hi29 := HI0.out.al12
                      refine hK.out _ _ (HSk.out _ hi29.k) (fun hHeld29 => ?_)
                      clear hK K hHeld29
                      have HI29 : Hid _ := hi29
                      clear hi29 HI0
                      generalize x0.alloc (.cells #[.pointer none] 216) = x29 at *
                      generalize x0.heap.size = V12 at *
                      try simp only [Act.put, List.setIfInBounds_toArray, List.set_cons_zero, List.set_cons_succ]
                      refine wpAnyH_ready (rs := [5, 13]) (by kernel_rfl) (by simp) ?_
                      refine (AllReadyH.cons (o := ?_) (by simp only [List.getElem?_toArray, List.getElem?_cons_succ, List.getElem?_cons_zero]; rfl) (fun K hK => ?_) (AllReadyH.cons (o := ?_) (by simp only [List.getElem?_toArray, List.getElem?_cons_succ, List.getElem?_cons_zero]; rfl) (fun K hK => ?_) AllReadyH.nil))
                      · go_simp
                        go_at_call 122
                        refine (HNK () _).mono ?_
                        rintro e x30 ⟨⟨A5, C5, rfl, s30, l30, m30⟩, k30⟩
                        have HI30 : Hid _ := HI29.out.set5 k30 s30 l30 m30
                        dsimp only
                        refine hK.out _ _ (HSk.out _ HI30.out.k) (fun hHeld30 => ?_)
                        clear hK K s30 l30 m30 k30 HI29
                        try simp only [Act.put, List.setIfInBounds_toArray, List.set_cons_zero, List.set_cons_succ]
                        refine wpAnyH_ready (rs := [11, 13]) (by kernel_rfl) (by simp) ?_
                        refine (AllReadyH.cons (o := ?_) (by simp only [List.getElem?_toArray, List.getElem?_cons_succ, List.getElem?_cons_zero]; rfl) (fun K hK => ?_) (AllReadyH.cons (o := ?_) (by simp only [List.getElem?_toArray, List.getElem?_cons_succ, List.getElem?_cons_zero]; rfl) (fun K hK => ?_) AllReadyH.nil))
                        · go_simp
                          go_at_call 122
                          refine (HNK () _).mono ?_
                          rintro e x31 ⟨⟨A11, C11, rfl, s31, l31, m31⟩, k31⟩
                          have HI31 : Hid _ := HI30.out.set11 k31 s31 l31 m31
                          dsimp only
                          refine hK.out _ _ (HSk.out _ HI31.out.k) (fun hHeld31 => ?_)
                          clear hK K s31 l31 m31 k31 HI30
                          try simp only [Act.put, List.setIfInBounds_toArray, List.set_cons_zero, List.set_cons_succ]
                          refine wpAnyH_ready (rs := [13]) (by kernel_rfl) (by simp) ?_
                          refine (AllReadyH.cons (o := ?_) (by simp only [List.getElem?_toArray, List.getElem?_cons_succ, List.getElem?_cons_zero]; rfl) (fun K hK => ?_) AllReadyH.nil)
                          · go_simp
                            have hi32 := HI31.out.al13
                            refine hK.out _ _ (HSk.out _ hi32.k) (fun hHeld32 => ?_)
                            clear hK K hHeld32
                            have HI32 : Hid _ := hi32
                            clear hi32 HI31
                            generalize x31.alloc (.cells #[.pointer none] 216) = x32 at *
                            generalize x31.heap.size = V13 at *
                            try simp only [Act.put, List.setIfInBounds_toArray, List.set_cons_zero, List.set_cons_succ]
                            have bc33 : x32.cell? ⟨V12, 0, none⟩ = some (.pointer none) := cell_of _ _ 0 _ _ (HI32.out.h12 V12 _ rfl).2
                            have bf33 : x32.frozen? ⟨V12, 0, none⟩ = false := free_of _ _ 0 _ _ (HI32.out.h12 V12 _ rfl).2
                            have hi33 := HI32.out.st14 (.pointer (some ⟨A5, 0, none⟩))
                            refine wpAnyH_ready (rs := [14]) (by kernel_rfl) (by simp) ?_
                            refine AllReadyH.cons (o := ?_) (by simp only [List.getElem?_toArray, List.getElem?_cons_succ, List.getElem?_cons_zero]; rfl) (fun K hK => ?_) AllReadyH.nil
                            go_simp
                            refine hK.out _ _ (HSk.out _ hi33.k) (fun hHeld33 => ?_)
                            clear hK K hHeld33 bc33 bf33
                            have HI33 : Hid _ := hi33
                            clear hi33 HI32
                            generalize x32.setCell ⟨V12, 0, none⟩ (.pointer (some ⟨A5, 0, none⟩)) = x33 at *
                            try simp only [Act.put, List.setIfInBounds_toArray, List.set_cons_zero, List.set_cons_succ]
                            have bc34 : x33.cell? ⟨V13, 0, none⟩ = some (.pointer none) := cell_of _ _ 0 _ _ (HI33.out.h13 V13 _ rfl).2
                            have bf34 : x33.frozen? ⟨V13, 0, none⟩ = false := free_of _ _ 0 _ _ (HI33.out.h13 V13 _ rfl).2
                            have hi34 := HI33.out.st15 (.pointer (some ⟨A11, 0, none⟩))
                            refine wpAnyH_ready (rs := [15]) (by kernel_rfl) (by simp) ?_
                            refine AllReadyH.cons (o := ?_) (by simp only [List.getElem?_toArray, List.getElem?_cons_succ, List.getElem?_cons_zero]; rfl) (fun K hK => ?_) AllReadyH.nil
                            go_simp
                            refine hK.out _ _ (HSk.out _ hi34.k) (fun hHeld34 => ?_)
                            clear hK K hHeld34 bc34 bf34
                            have HI34 : Hid _ := hi34
                            clear hi34 HI33
                            generalize x33.setCell ⟨V13, 0, none⟩ (.pointer (some ⟨A11, 0, none⟩)) = x34 at *
                            try simp only [Act.put, List.setIfInBounds_toArray, List.set_cons_zero, List.set_cons_succ]
                            refine wpAnyH_done (by kernel_rfl) ?_ _
                            refine NoPanic.normal ?_
                            go_wp2
                            go_meet
                            exact ⟨V12, V13, A5, C5, A11, C11, _, rfl, rfl, HI34⟩
                        · go_simp
                          have hi35 := HI30.out.al13
                          refine hK.out _ _ (HSk.out _ hi35.k) (fun hHeld35 => ?_)
                          clear hK K hHeld35
                          have HI35 : Hid _ := hi35
                          clear hi35 HI30
                          generalize x30.alloc (.cells #[.pointer none] 216) = x35 at *
                          generalize x30.heap.size = V13 at *
                          try simp only [Act.put, List.setIfInBounds_toArray, List.set_cons_zero, List.set_cons_succ]
                          refine wpAnyH_ready (rs := [11]) (by kernel_rfl) (by simp) ?_
                          refine (AllReadyH.cons (o := ?_) (by simp only [List.getElem?_toArray, List.getElem?_cons_succ, List.getElem?_cons_zero]; rfl) (fun K hK => ?_) AllReadyH.nil)
                          · go_simp
                            go_at_call 122
                            refine (HNK () _).mono ?_
                            rintro e x36 ⟨⟨A11, C11, rfl, s36, l36, m36⟩, k36⟩
                            have HI36 : Hid _ := HI35.out.set11 k36 s36 l36 m36
                            dsimp only
                            refine hK.out _ _ (HSk.out _ HI36.out.k) (fun hHeld36 => ?_)
                            clear hK K s36 l36 m36 k36 HI35
                            try simp only [Act.put, List.setIfInBounds_toArray, List.set_cons_zero, List.set_cons_succ]
                            have bc37 : x36.cell? ⟨V12, 0, none⟩ = some (.pointer none) := cell_of _ _ 0 _ _ (HI36.out.h12 V12 _ rfl).2
                            have bf37 : x36.frozen? ⟨V12, 0, none⟩ = false := free_of _ _ 0 _ _ (HI36.out.h12 V12 _ rfl).2
                            have hi37 := HI36.out.st14 (.pointer (some ⟨A5, 0, none⟩))
                            refine wpAnyH_ready (rs := [14]) (by kernel_rfl) (by simp) ?_
                            refine AllReadyH.cons (o := ?_) (by simp only [List.getElem?_toArray, List.getElem?_cons_succ, List.getElem?_cons_zero]; rfl) (fun K hK => ?_) AllReadyH.nil
                            go_simp
                            refine hK.out _ _ (HSk.out _ hi37.k) (fun hHeld37 => ?_)
                            clear hK K hHeld37 bc37 bf37
                            have HI37 : Hid _ := hi37
                            clear hi37 HI36
                            generalize x36.setCell ⟨V12, 0, none⟩ (.pointer (some ⟨A5, 0, none⟩)) = x37 at *
                            try simp only [Act.put, List.setIfInBounds_toArray, List.set_cons_zero, List.set_cons_succ]
                            have bc38 : x37.cell? ⟨V13, 0, none⟩ = some (.pointer none) := cell_of _ _ 0 _ _ (HI37.out.h13 V13 _ rfl).2
                            have bf38 : x37.frozen? ⟨V13, 0, none⟩ = false := free_of _ _ 0 _ _ (HI37.out.h13 V13 _ rfl).2
                            have hi38 := HI37.out.st15 (.pointer (some ⟨A11, 0, none⟩))
                            refine wpAnyH_ready (rs := [15]) (by kernel_rfl) (by simp) ?_
                            refine AllReadyH.cons (o := ?_) (by simp only [List.getElem?_toArray, List.getElem?_cons_succ, List.getElem?_cons_zero]; rfl) (fun K hK => ?_) AllReadyH.nil
                            go_simp
                            refine hK.out _ _ (HSk.out _ hi38.k) (fun hHeld38 => ?_)
                            clear hK K hHeld38 bc38 bf38
                            have HI38 : Hid _ := hi38
                            clear hi38 HI37
                            generalize x37.setCell ⟨V13, 0, none⟩ (.pointer (some ⟨A11, 0, none⟩)) = x38 at *
                            try simp only [Act.put, List.setIfInBounds_toArray, List.set_cons_zero, List.set_cons_succ]
                            refine wpAnyH_done (by kernel_rfl) ?_ _
                            refine NoPanic.normal ?_
                            go_wp2
                            go_meet
                            exact ⟨V12, V13, A5, C5, A11, C11, _, rfl, rfl, HI38⟩
                      · go_simp
                        have hi39 := HI29.out.al13
                        refine hK.out _ _ (HSk.out _ hi39.k) (fun hHeld39 => ?_)
                        clear hK K hHeld39
                        have HI39 : Hid _ := hi39
                        clear hi39 HI29
                        generalize x29.alloc (.cells #[.pointer none] 216) = x39 at *
                        generalize x29.heap.size = V13 at *
                        try simp only [Act.put, List.setIfInBounds_toArray, List.set_cons_zero, List.set_cons_succ]
                        refine wpAnyH_ready (rs := [5]) (by kernel_rfl) (by simp) ?_
                        refine (AllReadyH.cons (o := ?_) (by simp only [List.getElem?_toArray, List.getElem?_cons_succ, List.getElem?_cons_zero]; rfl) (fun K hK => ?_) AllReadyH.nil)
                        · go_simp
                          go_at_call 122
                          refine (HNK () _).mono ?_
                          rintro e x40 ⟨⟨A5, C5, rfl, s40, l40, m40⟩, k40⟩
                          have HI40 : Hid _ := HI39.out.set5 k40 s40 l40 m40
                          dsimp only
                          refine hK.out _ _ (HSk.out _ HI40.out.k) (fun hHeld40 => ?_)
                          clear hK K s40 l40 m40 k40 HI39
                          try simp only [Act.put, List.setIfInBounds_toArray, List.set_cons_zero, List.set_cons_succ]
                          refine wpAnyH_ready (rs := [11]) (by kernel_rfl) (by simp) ?_
                          refine (AllReadyH.cons (o := ?_) (by simp only [List.getElem?_toArray, List.getElem?_cons_succ, List.getElem?_cons_zero]; rfl) (fun K hK => ?_) AllReadyH.nil)
                          · go_simp
                            go_at_call 122
                            refine (HNK () _).mono ?_
                            rintro e x41 ⟨⟨A11, C11, rfl, s41, l41, m41⟩, k41⟩
                            have HI41 : Hid _ := HI40.out.set11 k41 s41 l41 m41
                            dsimp only
                            refine hK.out _ _ (HSk.out _ HI41.out.k) (fun hHeld41 => ?_)
                            clear hK K s41 l41 m41 k41 HI40
                            try simp only [Act.put, List.setIfInBounds_toArray, List.set_cons_zero, List.set_cons_succ]
                            have bc42 : x41.cell? ⟨V12, 0, none⟩ = some (.pointer none) := cell_of _ _ 0 _ _ (HI41.out.h12 V12 _ rfl).2
                            have bf42 : x41.frozen? ⟨V12, 0, none⟩ = false := free_of _ _ 0 _ _ (HI41.out.h12 V12 _ rfl).2
                            have hi42 := HI41.out.st14 (.pointer (some ⟨A5, 0, none⟩))
                            refine wpAnyH_ready (rs := [14]) (by kernel_rfl) (by simp) ?_
                            refine AllReadyH.cons (o := ?_) (by simp only [List.getElem?_toArray, List.getElem?_cons_succ, List.getElem?_cons_zero]; rfl) (fun K hK => ?_) AllReadyH.nil
                            go_simp
                            refine hK.out _ _ (HSk.out _ hi42.k) (fun hHeld42 => ?_)
                            clear hK K hHeld42 bc42 bf42
                            have HI42 : Hid _ := hi42
                            clear hi42 HI41
                            generalize x41.setCell ⟨V12, 0, none⟩ (.pointer (some ⟨A5, 0, none⟩)) = x42 at *
                            try simp only [Act.put, List.setIfInBounds_toArray, List.set_cons_zero, List.set_cons_succ]
                            have bc43 : x42.cell? ⟨V13, 0, none⟩ = some (.pointer none) := cell_of _ _ 0 _ _ (HI42.out.h13 V13 _ rfl).2
                            have bf43 : x42.frozen? ⟨V13, 0, none⟩ = false := free_of _ _ 0 _ _ (HI42.out.h13 V13 _ rfl).2
                            have hi43 := HI42.out.st15 (.pointer (some ⟨A11, 0, none⟩))
                            refine wpAnyH_ready (rs := [15]) (by kernel_rfl) (by simp) ?_
                            refine AllReadyH.cons (o := ?_) (by simp only [List.getElem?_toArray, List.getElem?_cons_succ, List.getElem?_cons_zero]; rfl) (fun K hK => ?_) AllReadyH.nil
                            go_simp
                            refine hK.out _ _ (HSk.out _ hi43.k) (fun hHeld43 => ?_)
                            clear hK K hHeld43 bc43 bf43
                            have HI43 : Hid _ := hi43
                            clear hi43 HI42
                            generalize x42.setCell ⟨V13, 0, none⟩ (.pointer (some ⟨A11, 0, none⟩)) = x43 at *
                            try simp only [Act.put, List.setIfInBounds_toArray, List.set_cons_zero, List.set_cons_succ]
                            refine wpAnyH_done (by kernel_rfl) ?_ _
                            refine NoPanic.normal ?_
                            go_wp2
                            go_meet
                            exact ⟨V12, V13, A5, C5, A11, C11, _, rfl, rfl, HI43⟩
                    · go_simp
                      have hi44 := HI0.out.al13
                      refine hK.out _ _ (HSk.out _ hi44.k) (fun hHeld44 => ?_)
                      clear hK K hHeld44
                      have HI44 : Hid _ := hi44
                      clear hi44 HI0
                      generalize x0.alloc (.cells #[.pointer none] 216) = x44 at *
                      generalize x0.heap.size = V13 at *
                      try simp only [Act.put, List.setIfInBounds_toArray, List.set_cons_zero, List.set_cons_succ]
                      refine wpAnyH_ready (rs := [5, 12]) (by kernel_rfl) (by simp) ?_
                      refine (AllReadyH.cons (o := ?_) (by simp only [List.getElem?_toArray, List.getElem?_cons_succ, List.getElem?_cons_zero]; rfl) (fun K hK => ?_) (AllReadyH.cons (o := ?_) (by simp only [List.getElem?_toArray, List.getElem?_cons_succ, List.getElem?_cons_zero]; rfl) (fun K hK => ?_) AllReadyH.nil))
                      · go_simp
                        go_at_call 122
                        refine (HNK () _).mono ?_
                        rintro e x45 ⟨⟨A5, C5, rfl, s45, l45, m45⟩, k45⟩
                        have HI45 : Hid _ := HI44.out.set5 k45 s45 l45 m45
                        dsimp only
                        refine hK.out _ _ (HSk.out _ HI45.out.k) (fun hHeld45 => ?_)
                        clear hK K s45 l45 m45 k45 HI44
                        try simp only [Act.put, List.setIfInBounds_toArray, List.set_cons_zero, List.set_cons_succ]
                        refine wpAnyH_ready (rs := [11, 12]) (by kernel_rfl) (by simp) ?_
                        refine (AllReadyH.cons (o := ?_) (by simp only [List.getElem?_toArray, List.getElem?_cons_succ, List.getElem?_cons_zero]; rfl) (fun K hK => ?_) (AllReadyH.cons (o := ?_) (by simp only [List.getElem?_toArray, List.getElem?_cons_succ, List.getElem?_cons_zero]; rfl) (fun K hK => ?_) AllReadyH.nil))
                        · go_simp
                          go_at_call 122
                          refine (HNK () _).mono ?_
                          rintro e x46 ⟨⟨A11, C11, rfl, s46, l46, m46⟩, k46⟩
                          have HI46 : Hid _ := HI45.out.set11 k46 s46 l46 m46
                          dsimp only
                          refine hK.out _ _ (HSk.out _ HI46.out.k) (fun hHeld46 => ?_)
                          clear hK K s46 l46 m46 k46 HI45
                          try simp only [Act.put, List.setIfInBounds_toArray, List.set_cons_zero, List.set_cons_succ]
                          refine wpAnyH_ready (rs := [12]) (by kernel_rfl) (by simp) ?_
                          refine (AllReadyH.cons (o := ?_) (by simp only [List.getElem?_toArray, List.getElem?_cons_succ, List.getElem?_cons_zero]; rfl) (fun K hK => ?_) AllReadyH.nil)
                          · go_simp
                            have hi47 := HI46.out.al12
                            refine hK.out _ _ (HSk.out _ hi47.k) (fun hHeld47 => ?_)
                            clear hK K hHeld47
                            have HI47 : Hid _ := hi47
                            clear hi47 HI46
                            generalize x46.alloc (.cells #[.pointer none] 216) = x47 at *
                            generalize x46.heap.size = V12 at *
                            try simp only [Act.put, List.setIfInBounds_toArray, List.set_cons_zero, List.set_cons_succ]
                            have bc48 : x47.cell? ⟨V12, 0, none⟩ = some (.pointer none) := cell_of _ _ 0 _ _ (HI47.out.h12 V12 _ rfl).2
                            have bf48 : x47.frozen? ⟨V12, 0, none⟩ = false := free_of _ _ 0 _ _ (HI47.out.h12 V12 _ rfl).2
                            have hi48 := HI47.out.st14 (.pointer (some ⟨A5, 0, none⟩))
                            refine wpAnyH_ready (rs := [14]) (by kernel_rfl) (by simp) ?_
                            refine AllReadyH.cons (o := ?_) (by simp only [List.getElem?_toArray, List.getElem?_cons_succ, List.getElem?_cons_zero]; rfl) (fun K hK => ?_) AllReadyH.nil
                            go_simp
                            refine hK.out _ _ (HSk.out _ hi48.k) (fun hHeld48 => ?_)
                            clear hK K hHeld48 bc48 bf48
                            have HI48 : Hid _ := hi48
                            clear hi48 HI47
                            generalize x47.setCell ⟨V12, 0, none⟩ (.pointer (some ⟨A5, 0, none⟩)) = x48 at *
                            try simp only [Act.put, List.setIfInBounds_toArray, List.set_cons_zero, List.set_cons_succ]
                            have bc49 : x48.cell? ⟨V13, 0, none⟩ = some (.pointer none) := cell_of _ _ 0 _ _ (HI48.out.h13 V13 _ rfl).2
                            have bf49 : x48.frozen? ⟨V13, 0, none⟩ = false := free_of _ _ 0 _ _ (HI48.out.h13 V13 _ rfl).2
                            have hi49 := HI48.out.st15 (.pointer (some ⟨A11, 0, none⟩))
                            refine wpAnyH_ready (rs := [15]) (by kernel_rfl) (by simp) ?_
                            refine AllReadyH.cons (o := ?_) (by simp only [List.getElem?_toArray, List.getElem?_cons_succ, List.getElem?_cons_zero]; rfl) (fun K hK => ?_) AllReadyH.nil
                            go_simp
                            refine hK.out _ _ (HSk.out _ hi49.k) (fun hHeld49 => ?_)
                            clear hK K hHeld49 bc49 bf49
                            have HI49 : Hid _ := hi49
                            clear hi49 HI48
                            generalize x48.setCell ⟨V13, 0, none⟩ (.pointer (some ⟨A11, 0, none⟩)) = x49 at *
                            try simp only [Act.put, List.setIfInBounds_toArray, List.set_cons_zero, List.set_cons_succ]
                            refine wpAnyH_done (by kernel_rfl) ?_ _
                            refine NoPanic.normal ?_
                            go_wp2
                            go_meet
                            exact ⟨V12, V13, A5, C5, A11, C11, _, rfl, rfl, HI49⟩
                        · go_simp
                          have hi50 := HI45.out.al12
                          refine hK.out _ _ (HSk.out _ hi50.k) (fun hHeld50 => ?_)
                          clear hK K hHeld50
                          have HI50 : Hid _ := hi50
                          clear hi50 HI45
                          generalize x45.alloc (.cells #[.pointer none] 216) = x50 at *
                          generalize x45.heap.size = V12 at *
                          try simp only [Act.put, List.setIfInBounds_toArray, List.set_cons_zero, List.set_cons_succ]
                          refine wpAnyH_ready (rs := [11]) (by kernel_rfl) (by simp) ?_
                          refine (AllReadyH.cons (o := ?_) (by simp only [List.getElem?_toArray, List.getElem?_cons_succ, List.getElem?_cons_zero]; rfl) (fun K hK => ?_) AllReadyH.nil)
                          · go_simp
                            go_at_call 122
                            refine (HNK () _).mono ?_
                            rintro e x51 ⟨⟨A11, C11, rfl, s51, l51, m51⟩, k51⟩
                            have HI51 : Hid _ := HI50.out.set11 k51 s51 l51 m51
                            dsimp only
                            refine hK.out _ _ (HSk.out _ HI51.out.k) (fun hHeld51 => ?_)
                            clear hK K s51 l51 m51 k51 HI50
                            try simp only [Act.put, List.setIfInBounds_toArray, List.set_cons_zero, List.set_cons_succ]
                            have bc52 : x51.cell? ⟨V12, 0, none⟩ = some (.pointer none) := cell_of _ _ 0 _ _ (HI51.out.h12 V12 _ rfl).2
                            have bf52 : x51.frozen? ⟨V12, 0, none⟩ = false := free_of _ _ 0 _ _ (HI51.out.h12 V12 _ rfl).2
                            have hi52 := HI51.out.st14 (.pointer (some ⟨A5, 0, none⟩))
                            refine wpAnyH_ready (rs := [14]) (by kernel_rfl) (by simp) ?_
                            refine AllReadyH.cons (o := ?_) (by simp only [List.getElem?_toArray, List.getElem?_cons_succ, List.getElem?_cons_zero]; rfl) (fun K hK => ?_) AllReadyH.nil
                            go_simp
                            refine hK.out _ _ (HSk.out _ hi52.k) (fun hHeld52 => ?_)
                            clear hK K hHeld52 bc52 bf52
                            have HI52 : Hid _ := hi52
                            clear hi52 HI51
                            generalize x51.setCell ⟨V12, 0, none⟩ (.pointer (some ⟨A5, 0, none⟩)) = x52 at *
                            try simp only [Act.put, List.setIfInBounds_toArray, List.set_cons_zero, List.set_cons_succ]
                            have bc53 : x52.cell? ⟨V13, 0, none⟩ = some (.pointer none) := cell_of _ _ 0 _ _ (HI52.out.h13 V13 _ rfl).2
                            have bf53 : x52.frozen? ⟨V13, 0, none⟩ = false := free_of _ _ 0 _ _ (HI52.out.h13 V13 _ rfl).2
                            have hi53 := HI52.out.st15 (.pointer (some ⟨A11, 0, none⟩))
                            refine wpAnyH_ready (rs := [15]) (by kernel_rfl) (by simp) ?_
                            refine AllReadyH.cons (o := ?_) (by simp only [List.getElem?_toArray, List.getElem?_cons_succ, List.getElem?_cons_zero]; rfl) (fun K hK => ?_) AllReadyH.nil
                            go_simp
                            refine hK.out _ _ (HSk.out _ hi53.k) (fun hHeld53 => ?_)
                            clear hK K hHeld53 bc53 bf53
                            have HI53 : Hid _ := hi53
                            clear hi53 HI52
                            generalize x52.setCell ⟨V13, 0, none⟩ (.pointer (some ⟨A11, 0, none⟩)) = x53 at *
                            try simp only [Act.put, List.setIfInBounds_toArray, List.set_cons_zero, List.set_cons_succ]
                            refine wpAnyH_done (by kernel_rfl) ?_ _
                            refine NoPanic.normal ?_
                            go_wp2
                            go_meet
                            exact ⟨V12, V13, A5, C5, A11, C11, _, rfl, rfl, HI53⟩
                      · go_simp
                        have hi54 := HI44.out.al12
                        refine hK.out _ _ (HSk.out _ hi54.k) (fun hHeld54 => ?_)
                        clear hK K hHeld54
                        have HI54 : Hid _ := hi54
                        clear hi54 HI44
                        generalize x44.alloc (.cells #[.pointer none] 216) = x54 at *
                        generalize x44.heap.size = V12 at *
                        try simp only [Act.put, List.setIfInBounds_toArray, List.set_cons_zero, List.set_cons_succ]
                        refine wpAnyH_ready (rs := [5]) (by kernel_rfl) (by simp) ?_
                        refine (AllReadyH.cons (o := ?_) (by simp only [List.getElem?_toArray, List.getElem?_cons_succ, List.getElem?_cons_zero]; rfl) (fun K hK => ?_) AllReadyH.nil)
                        · go_simp
                          go_at_call 122
                          refine (HNK () _).mono ?_
                          rintro e x55 ⟨⟨A5, C5, rfl, s55, l55, m55⟩, k55⟩
                          have HI55 : Hid _ := HI54.out.set5 k55 s55 l55 m55
                          dsimp only
                          refine hK.out _ _ (HSk.out _ HI55.out.k) (fun hHeld55 => ?_)
                          clear hK K s55 l55 m55 k55 HI54
                          try simp only [Act.put, List.setIfInBounds_toArray, List.set_cons_zero, List.set_cons_succ]
                          refine wpAnyH_ready (rs := [11]) (by kernel_rfl) (by simp) ?_
                          refine (AllReadyH.cons (o := ?_) (by simp only [List.getElem?_toArray, List.getElem?_cons_succ, List.getElem?_cons_zero]; rfl) (fun K hK => ?_) AllReadyH.nil)
                          · go_simp
                            go_at_call 122
                            refine (HNK () _).mono ?_
                            rintro e x56 ⟨⟨A11, C11, rfl, s56, l56, m56⟩, k56⟩
                            have HI56 : Hid _ := HI55.out.set11 k56 s56 l56 m56
                            dsimp only
                            refine hK.out _ _ (HSk.out _ HI56.out.k) (fun hHeld56 => ?_)
                            clear hK K s56 l56 m56 k56 HI55
                            try simp only [Act.put, List.setIfInBounds_toArray, List.set_cons_zero, List.set_cons_succ]
                            have bc57 : x56.cell? ⟨V12, 0, none⟩ = some (.pointer none) := cell_of _ _ 0 _ _ (HI56.out.h12 V12 _ rfl).2
                            have bf57 : x56.frozen? ⟨V12, 0, none⟩ = false := free_of _ _ 0 _ _ (HI56.out.h12 V12 _ rfl).2
                            have hi57 := HI56.out.st14 (.pointer (some ⟨A5, 0, none⟩))
                            refine wpAnyH_ready (rs := [14]) (by kernel_rfl) (by simp) ?_
                            refine AllReadyH.cons (o := ?_) (by simp only [List.getElem?_toArray, List.getElem?_cons_succ, List.getElem?_cons_zero]; rfl) (fun K hK => ?_) AllReadyH.nil
                            go_simp
                            refine hK.out _ _ (HSk.out _ hi57.k) (fun hHeld57 => ?_)
                            clear hK K hHeld57 bc57 bf57
                            have HI57 : Hid _ := hi57
                            clear hi57 HI56
                            generalize x56.setCell ⟨V12, 0, none⟩ (.pointer (some ⟨A5, 0, none⟩)) = x57 at *
                            try simp only [Act.put, List.setIfInBounds_toArray, List.set_cons_zero, List.set_cons_succ]
                            have bc58 : x57.cell? ⟨V13, 0, none⟩ = some (.pointer none) := cell_of _ _ 0 _ _ (HI57.out.h13 V13 _ rfl).2
                            have bf58 : x57.frozen? ⟨V13, 0, none⟩ = false := free_of _ _ 0 _ _ (HI57.out.h13 V13 _ rfl).2
                            have hi58 := HI57.out.st15 (.pointer (some ⟨A11, 0, none⟩))
                            refine wpAnyH_ready (rs := [15]) (by kernel_rfl) (by simp) ?_
                            refine AllReadyH.cons (o := ?_) (by simp only [List.getElem?_toArray, List.getElem?_cons_succ, List.getElem?_cons_zero]; rfl) (fun K hK => ?_) AllReadyH.nil
                            go_simp
                            refine hK.out _ _ (HSk.out _ hi58.k) (fun hHeld58 => ?_)
                            clear hK K hHeld58 bc58 bf58
                            have HI58 : Hid _ := hi58
                            clear hi58 HI57
                            generalize x57.setCell ⟨V13, 0, none⟩ (.pointer (some ⟨A11, 0, none⟩)) = x58 at *
                            try simp only [Act.put, List.setIfInBounds_toArray, List.set_cons_zero, List.set_cons_succ]
                            refine wpAnyH_done (by kernel_rfl) ?_ _
                            refine NoPanic.normal ?_
                            go_wp2
                            go_meet
                            exact ⟨V12, V13, A5, C5, A11, C11, _, rfl, rfl, HI58⟩
                    -- END F
                  case rest =>
                    obtain ⟨b32, b33, TA, TC, OV, OC, cl, rfl, rfl, HIK⟩ := hcut
                    obtain ⟨w11, rfl⟩ : ∃ w11, w11 = wc := ⟨_, rfl⟩
                    clear HSk HNK c5 ck
                    have hZ4 : Z + 4 ≤ w10.heap.size := heap_lt HW.out.2.2.2.2
                    have k911 : Keep (fun _ => False) w9 w11 := HW.out.1.trans HIK.out.k (fun _ q => q.elim)
                    obtain ⟨cls5, hsw0⟩ := sw_start M HIK.out hZ4 HW.out.2.1 HW.out.2.2.2.1
                    obtain ⟨fs, h5⟩ := HSC8.out.to5 HK9.out HSP.out HE9.out HR9.out (Nat.lt_of_lt_of_le HSPl.out HK9.out.size) hM
                    rw [← HZ.out] at h5
                    have h5b := h5.keep k911 (fun _ q => q.elim)
                    have H5 : Hid _ := h5b
                    have HX0 : Hid (∃ gn, gn ≤ 0 ∧ SX (SSd Z b32 b33) w11 Z (Z + 2) TA TC OV OC NK M 0 gn w11) := ⟨0, Nat.le_refl _, _, _, _, _, _, _, _, hsw0, fun x _ q => by simp at q, fun _ _ => Nat.le_refl _⟩
                    obtain ⟨fb, hfr⟩ := (((HS6.out.keep HSC8.out.k (by have := HE6.out.lt; omega) id id).keep HK9.out (by have := HE6.out.lt; have := HSC8.out.k.size; omega) (by show ¬ C = SP; omega) (by show ¬ C + 2 = SP; omega)).keep k911 (by have := HE9.out.lt; omega) id id).fr
                    have HSE : Hid (SE (SSd Z b32 b33) w11 B (B + 1) (B + 2) (C + 1) (Z + 1) (Z + 3) b32 b33 OB M oc kd tx ky EM en C fb KS NK wt num sx mb sa sc mn Z (Z + 2) TA OV) := by
                      have e := h5b.e2
                      have zC := h5b.zC
                      have bC := e.bC
                      obtain ⟨q1, q2, q3, q4, q5⟩ := HCS.out
                      have lo : ∀ b, b < Z → SSd Z b32 b33 b := fun b h => .inl h
                      exact ⟨e.b3, e.b4, e.b5, e.bf, HIK.out.k.at HW.out.2.2.1 id, HIK.out.k.at HW.out.2.2.2.2 id, (HIK.out.h12 _ _ rfl).2, (HIK.out.h13 _ _ rfl).2, HO.out.keep e.k id, MQ.keep HEM.out e.k id, hfr, by have := e.lt; omega, HS.out.keep e.k id id (fun _ _ => id), ⟨lo _ (by omega), lo _ (by omega), lo _ (by omega), lo _ (by omega), .inr (.inl rfl), .inr (.inr (.inl rfl)), .inr (.inr (.inr (.inl rfl))), .inr (.inr (.inr (.inr rfl)))⟩, ⟨lo _ (by omega), lo _ (by omega), lo _ (by omega), lo _ (by omega), lo _ (by omega), fun g eg h0 => lo _ (by have := q5 g eg h0; omega)⟩⟩
                    have HEnd : Hid (∀ W, Keep (fun b => ¬ SSd Z b32 b33 b) w11 W → Marks (C + 4) W ds ∧ Keep (fun _ => False) w W ∧ w.heap.size ≤ C + 4) := by
                      intro W kW
                      have k1 : Keep (fun _ => False) w9 W := k911.trans kW (fun b sb => .inr (by
                        by_cases hb : b < Z
                        · exact absurd (Or.inl hb) sb
                        · have := HZ.out; omega))
                      exact ⟨HM9.out.keep k1 (fun _ _ q => q.elim), HE9.out.k.trans k1 (fun _ q => q.elim), by have := HE9.out.hB; have := HE9.out.bC; omega⟩
                    have c3 : w11.cell? ⟨B, 0, none⟩ = some (.slice (some ⟨OB, 0, none⟩) M oc) := cell_of _ _ 0 _ _ h5b.e2.b3
                    have HSS : Hid (∀ b, SSd Z b32 b33 b → b < w11.heap.size) := by
                      intro b sb
                      have sb' : b < Z ∨ b = Z + 1 ∨ b = Z + 3 ∨ b = b32 ∨ b = b33 := sb
                      have h1 := HIK.out.k.size
                      have h2 := heap_lt (HIK.out.h12 _ _ rfl).2
                      have h3 := heap_lt (HIK.out.h13 _ _ rfl).2
                      omega
                    have hmf : ∀ fn first cap w, (Instr.makeFunc fn first cap).run Ybaz.prog w = .ok (.func fn first cap) w := fun _ _ _ _ => rfl
                    clear h5 h5b hsw0 hfr k911 HSC8 HK9 HE9 HR9 HSP HSPl HSP6 HM9 HW HZ HIK HS6 HE6 HSU HCS hZ4 hSPC
                    go_wp2
                    clear c3 hmf
                    go_loopg [6, 7, 252] M (fun gk s6 s7 s wr => ∃ (i : Nat) (p q : Option Addr), i ≤ M ∧ s6 = .pointer p ∧ s7 = .pointer q ∧ s = .int .i64 (i : Int) ∧ gk = M - i ∧ Hid (∃ gn, gn ≤ i ∧ SX (SSd Z b32 b33) w11 Z (Z + 2) TA TC OV OC NK M i gn wr))
                    case atStart => exact ⟨0, none, none, Nat.zero_le _, rfl, rfl, rfl, rfl, HX0⟩
                    case round =>
                      clear HX0
                      obtain ⟨i, p, q, hi, rfl, rfl, rfl, rfl, HR⟩ := hrel
                      obtain ⟨w12, rfl⟩ : ∃ w12, w12 = wr := ⟨_, rfl⟩
                      by_cases hlt : i < M
                      · as_aux_lemma =>
                        have i1 : (i : Int) < (M : Int) := by omega
                        have i2 : (i : Int).toNat = i := by omega
                        obtain ⟨gn, hgn, cl6, ln6, wa6, wc6, wv6, c1, c2, hsw, hok, hlB⟩ := HR.out
                        obtain ⟨e0, e1, e2, e3, e4, e5, e6⟩ := (HSE.out.keep hsw.k).op.cell i hlt
                        have kA := Keep.alloc (fun _ => False) w12 (.cells #[.int .u8 (kd i : Int), .int .u64 (tx i : Int), .string (kstr (ky i)), .string ⟨#[]⟩, .bool false, .int .u64 0, .slice none 0 0] 34)
                        have HSW : Hid _ := hsw.quiet kA
                        have HB3 : Hid _ := heap_alloc_new w12 (.cells #[.int .u8 (kd i : Int), .int .u64 (tx i : Int), .string (kstr (ky i)), .string ⟨#[]⟩, .bool false, .int .u64 0, .slice none 0 0] 34)
                        have HOK : Hid (SOk NK ln6 c1 c2) := hok
                        have HLB : Hid _ := hlB
                        have HBO : Hid (w11.heap.size ≤ w12.heap.size) := hsw.k.size
                        have ht := HO.out.ht i hlt
                        clear kA hsw hok hlB HR
                        go_upto_region 57 with fail
                        clear e0 e1 e2 e3 e4 e5 e6
                        generalize (w12.alloc (.cells #[.int .u8 (kd i : Int), .int .u64 (tx i : Int), .string (kstr (ky i)), .string ⟨#[]⟩, .bool false, .int .u64 0, .slice none 0 0] 34)) = w13 at *
                        generalize w12.heap.size = bO at *
                        have e0 : w13.cell? ⟨bO, 0, none⟩ = some (.int .u8 (kd i : Int)) := cell_of _ _ 0 _ _ HB3.out
                        have h5 := H5.out.keep HSW.out.k (fun b sb => by
                          by_cases hb : b < Z
                          · exact absurd (Or.inl hb) sb
                          · omega)
                        have hkk : kd i = 119 ∨ kd i = 97 ∨ kd i = 114 ∨ kd i = 99 := by have := HO.out.hk i hlt; omega
                        rcases hkk with hk | hk | hk | hk
                        · rw [hk] at e0
                          as_aux_lemma =>
                            -- BEGIN W
                            have c8 : w13.cell? ⟨B + 4, 0, none⟩ = some (.slice (some ⟨B + 3, 0, none⟩) M M) := cell_of _ _ 0 _ _ h5.e2.b8
                            have ek := h5.e2.row.cell i hlt
                            have hx : ka i < NK := by
                              have := h5.e2.kl i
                              have hw := HH.out.hwr i hlt hk
                              have := HS.out.nlt _ (by have := HO.out.hk i hlt; omega) hw
                              omega
                            obtain ⟨x, hxe⟩ : ∃ x, x = ka i := ⟨_, rfl⟩
                            rw [← hxe] at ek hx
                            have x1 : (x : Int) < (NK : Int) := by omega
                            have x2 : (x : Int).toNat = x := by omega
                            have es := h5.su.cell x hx
                            clear hxe
                            go_upto_region 60 with fail
                            clear c8 ek e0
                            cases hfs : fs x with
                            | false =>
                              rw [hfs] at es
                              have HF : Hid (∃ gn, gn ≤ i + 1 ∧ SX (SSd Z b32 b33) w11 Z (Z + 2) TA TC OV OC NK M (i + 1) gn w13) := ⟨gn, by omega, _, _, _, _, _, _, _, HSW.out, HOK.out, fun x hx => by have := HLB.out x hx; omega⟩
                              clear HSW HOK HLB HB3 h5
                              go_wp2
                              go_roundg (M - (i + 1))
                              case measure => omega
                              case rel => exact ⟨i + 1, p, q, by omega, rfl, rfl, by go_num, rfl, HF⟩
                            | true =>
                              rw [hfs] at es
                              go_upto_region 61 with fail
                              clear es h5
                              go_cut [269] from 269 to 279 (fun _ wx => ∃ cl8 wa8 wc8 wv8 ln8, Hid (SW (SSd Z b32 b33) w11 Z (Z + 2) TA TC OV OC NK M cl8 (put1 ln6 x ln8) wa8 wc8 wv8 gn c1 c2 wx ∧ ln8 = ln6 x + 1))
                              case first => as_aux_lemma =>
                                have c30 : w13.cell? ⟨Z + 1, 0, none⟩ = some (.slice (some ⟨Z, 0, none⟩) NK NK) := cell_of _ _ 0 _ _ (HSE.out.keep HSW.out.k).v30
                                have cp := HSW.out.row.cell x hx
                                have fp := HSW.out.row.free x
                                have iw : IntKind.i32.wrap (i : Int) = (i : Int) := by unfold IntKind.wrap; simp [IntKind.bits, IntKind.signed]; omega
                                have HSE13 := HSE.out.keep HSW.out.k
                                have kal := Keep.alloc (fun _ => False) w13 (.cells #[.int .i32 (i : Int)] 21)
                                have hP : Z < w13.heap.size := HSW.out.new Z (by rw [HSW.out.cP]; omega)
                                have c30a := (kal.cell ⟨Z + 1, 0, none⟩ (heap_lt HSE13.v30) id).trans c30
                                have cpa := (kal.cell ⟨Z, x, none⟩ hP id).trans cp
                                obtain ⟨g5, cap5, w14, hr5, hv5, hk5, hg5, hl5⟩ := run_push (w13.alloc (.cells #[.int .i32 (i : Int)] 21)).drew 95 21 95 1 4 _ Ybaz.underlying95 inf21 rfl Nat.one_pos (by decide) (wa6 x) (ln6 x) (wc6 x) _ (((HSW.out.vec x hx).alloc (.cells #[.int .i32 (i : Int)] 21)).keep ((Keep.refl (fun _ => False) _).drew) (fun _ _ q => q)) ⟨w13.heap.size, 0, none⟩ 1 (fun _ => .int .i32 (i : Int)) (new1 w13 _ 21) (fun _ _ => rfl) (by have := HLB.out x hx; omega)
                                have hsw2 : SW (SSd Z b32 b33) w11 Z (Z + 2) TA TC OV OC NK M cl6 ln6 wa6 wc6 wv6 gn c1 c2 (w13.alloc (.cells #[.int .i32 (i : Int)] 21)).drew := HSW.out.quiet kal.drew
                                have hse2 := HSE.out.keep hsw2.k
                                have nZ : ¬ wa6 x = some ⟨Z, 0, none⟩ := fun e => by have := hsw2.cV x Z hx e; have := hsw2.cP; omega
                                have n30 : ¬ wa6 x = some ⟨Z + 1, 0, none⟩ := fun e => by have := hsw2.cV x _ hx e; have := hsw2.z (Z + 1) (.inr (.inl rfl)); omega
                                have c30b : w14.cell? ⟨Z + 1, 0, none⟩ = some (.slice (some ⟨Z, 0, none⟩) NK NK) := cell_of _ _ 0 _ _ (hk5.at hse2.v30 n30)
                                have cpb : w14.cell? ⟨Z, x, none⟩ = some (.slice (wa6 x) (ln6 x) (wc6 x)) := (hk5.cell ⟨Z, x, none⟩ (Nat.lt_of_lt_of_le hP kal.size) nZ).trans (hsw2.row.cell x hx)
                                have fpb : w14.frozen? ⟨Z, x, none⟩ = false := (hk5.free ⟨Z, x, none⟩ (Nat.lt_of_lt_of_le hP kal.size) nZ).trans (hsw2.row.free x)
                                have hS2 : ∀ b, SSd Z b32 b33 b → b < (w13.alloc (.cells #[.int .i32 (i : Int)] 21)).drew.heap.size := fun b sb => Nat.lt_of_lt_of_le (HSS.out b sb) hsw2.k.size
                                have HSW2 : Hid _ := hsw2.push hS2 x i hx hlt hv5 hk5 (or2 hg5 id (fun e => Nat.le_of_eq e.symm)) hl5
                                clear HSE13 kal hsw2 hse2 nZ n30 hS2 hv5 hk5 hg5 hl5 HSW HB3
                                go_big_region
                                clear c30 cp fp c30a cpa hr5 c30b cpb fpb
                                go_wp2
                                go_meet
                                exact ⟨_, _, _, _, _, HSW2.out, rfl⟩
                              case rest =>
                                obtain ⟨cl8, wa8, wc8, wv8, ln8, HSW2⟩ := hcut
                                obtain ⟨w15, rfl⟩ : ∃ w15, w15 = wc := ⟨_, rfl⟩
                                clear HSW HB3
                                have HC := fun (_ : Unit) => (settle_any (SSd Z b32 b33) w11 B (B + 1) (B + 2) (C + 1) (Z + 1) (Z + 3) b32 b33 OB M oc kd tx ky EM en C fb KS NK wt num sx mb sa sc mn Z (Z + 2) TA TC OV OC (i + 1) gn x _ _ _ _ _ _ _ w15 HSE.out HSW2.out.1 (fun y hy hne hq => by rw [put1_ne _ _ hne]; exact HOK.out y hy hq) (fun y hy => by
                                  by_cases e : y = x
                                  · rw [e, put1_at]; have := HLB.out x hx; have := HSW2.out.2; omega
                                  · rw [put1_ne _ _ e]; have := HLB.out y hy; omega) (by omega) hx).mono (fun e w' h => (⟨h.1, h.2⟩ : e = .returned (.tuple #[]) ∧ Hid (SX (SSd Z b32 b33) w11 Z (Z + 2) TA TC OV OC NK M (i + 1) gn w')))
                                go_wp2_with (go_at_call 123; refine (HC ()).mono ?_; rintro e w16 ⟨rfl, HX16⟩)
                                clear HC
                                have HF : Hid (∃ gn, gn ≤ i + 1 ∧ SX (SSd Z b32 b33) w11 Z (Z + 2) TA TC OV OC NK M (i + 1) gn w16) := ⟨gn, by omega, HX16.out⟩
                                go_roundg (M - (i + 1))
                                case measure => omega
                                case rel => exact ⟨i + 1, p, q, by omega, rfl, rfl, by go_num, rfl, HF⟩
                            -- END W
                        · rw [hk] at e0
                          as_aux_lemma =>
                            -- BEGIN AB
                            have HKd : Hid _ := hk
                            clear hk
                            have e1 : w13.cell? ⟨bO, 1, none⟩ = some (.int .u64 (tx i : Int)) := cell_of _ _ 1 _ _ HB3.out
                            have hL := h5.mp.look_ok keyed31 Ybaz.underlying214 (zero95 _) (tkey (tx i) ht.2)
                            rw [intM_int, valF_at] at hL
                            cases hhas : has (tx i) with
                            | false =>
                              have e9 : awF has awa ln awc (tx i) = none := by unfold awF; rw [hhas]; rfl
                              rw [e9] at hL
                              simp only [Option.getD_none, Option.isSome_none] at hL
                              have HF : Hid (∃ gn, gn ≤ i + 1 ∧ SX (SSd Z b32 b33) w11 Z (Z + 2) TA TC OV OC NK M (i + 1) gn w13) := ⟨gn, by omega, _, _, _, _, _, _, _, HSW.out, HOK.out, fun x hx => by have := HLB.out x hx; omega⟩
                              clear HSW HOK HLB HB3 h5 e9
                              go_wp2
                              go_roundg (M - (i + 1))
                              case measure => omega
                              case rel => exact ⟨i + 1, p, q, by omega, rfl, rfl, by go_num, rfl, HF⟩
                            | true =>
                              have e9 : awF has awa ln awc (tx i) = some (.slice (awa (tx i)) (ln (tx i)) (awc (tx i))) := by unfold awF; rw [hhas]; rfl
                              rw [e9] at hL
                              simp only [Option.getD_some, Option.isSome_some] at hL
                              have c31 : w13.cell? ⟨Z + 3, 0, none⟩ = some (.map (some (Z + 2))) := cell_of _ _ 0 _ _ (HSE.out.keep HSW.out.k).v31
                              obtain ⟨w14, hr4, hm4, hk4, hz4⟩ := HSW.out.mp.put Ybaz.underlying210 (by unfold maxLen; omega) (tx i) ht.2 (.bool true) ⟨true, rfl⟩
                              have HSW2 : Hid _ := HSW.out.gone hm4 hk4
                              obtain ⟨aw, haw⟩ : ∃ aw, awa (tx i) = aw := ⟨_, rfl⟩
                              rw [haw] at hL
                              have HAW : Hid _ := haw
                              clear HSW hm4 hk4 hz4 HB3 e9 h5 haw
                              go_wp2
                              go_loopg [298] (ln (tx i)) (fun gk s wr => ∃ j : Nat, j ≤ ln (tx i) ∧ s = .int .i64 (j : Int) ∧ gk = ln (tx i) - j ∧ Hid (SX (SSd Z b32 b33) w11 Z (Z + 2) TA TC OV OC NK M i (gn + 1) wr))
                              case atStart => exact ⟨0, Nat.zero_le _, rfl, rfl, _, _, _, _, _, _, _, HSW2.out, HOK.out, HLB.out⟩
                              case round =>
                                clear HSW2 HOK HLB
                                obtain ⟨j, hj, rfl, rfl, HRj⟩ := hrel
                                obtain ⟨w15, rfl⟩ : ∃ w15, w15 = wr := ⟨_, rfl⟩
                                by_cases hjl : j < ln (tx i)
                                · have j1 : (j : Int) < (ln (tx i) : Int) := by omega
                                  have j2 : (j : Int).toNat = j := by omega
                                  obtain ⟨cl7, ln7, wa7, wc7, wv7, d1, d2, hsw7, hok7, hlB7⟩ := HRj.out
                                  have h7 := H5.out.keep hsw7.k (fun b sb => by
                                    by_cases hb : b < Z
                                    · exact absurd (Or.inl hb) sb
                                    · omega)
                                  have j3 : (ln (tx i) : Int) ≤ 2000 := by have := h7.sz (tx i); omega
                                  obtain ⟨ga, hga, hgl, hrow⟩ := (h7.vec (tx i)).row (by omega)
                                  have ex := hrow.cell j hjl
                                  have hx := h7.lt (tx i) j hjl
                                  obtain ⟨x, hxe⟩ : ∃ x, x = av (tx i) j := ⟨_, rfl⟩
                                  rw [← hxe] at ex hx
                                  have HC := fun (_ : Unit) => (settle_any (SSd Z b32 b33) w11 B (B + 1) (B + 2) (C + 1) (Z + 1) (Z + 3) b32 b33 OB M oc kd tx ky EM en C fb KS NK wt num sx mb sa sc mn Z (Z + 2) TA TC OV OC i (gn + 1) x _ _ _ _ _ _ _ w15 HSE.out hsw7 (SOk.but hok7 x) hlB7 (by omega) hx).mono (fun e w' h => (⟨h.1, h.2⟩ : e = .returned (.tuple #[]) ∧ Hid (SX (SSd Z b32 b33) w11 Z (Z + 2) TA TC OV OC NK M i (gn + 1) w')))
                                  clear h7 hrow hxe hgl hsw7 hok7 hlB7 HRj hx
                                  rw [HAW.out] at hga
                                  subst hga
                                  go_wp2_with (go_at_call 123; refine (HC ()).mono ?_; rintro e w16 ⟨rfl, HX16⟩)
                                  clear HC
                                  go_roundg (ln (tx i) - (j + 1))
                                  case measure => omega
                                  case rel => exact ⟨j + 1, by omega, by go_num, rfl, HX16⟩
                                · have hje : ln (tx i) = j := by omega
                                  have j4 : ¬ (j : Int) < (ln (tx i) : Int) := by omega
                                  have HF : Hid (∃ gn, gn ≤ i + 1 ∧ SX (SSd Z b32 b33) w11 Z (Z + 2) TA TC OV OC NK M (i + 1) gn w15) := by
                                    obtain ⟨cl7, ln7, wa7, wc7, wv7, d1, d2, hsw7, hok7, hlB7⟩ := HRj.out
                                    exact ⟨gn + 1, by omega, cl7, ln7, wa7, wc7, wv7, d1, d2, hsw7, hok7, fun x hx => by have := hlB7 x hx; omega⟩
                                  clear HRj hje
                                  go_wp2
                                  go_roundg (M - (i + 1))
                                  case measure => omega
                                  case rel => exact ⟨i + 1, p, q, by omega, rfl, rfl, by go_num, rfl, HF⟩
                            -- END AB
                        · rw [hk] at e0
                          as_aux_lemma =>
                            -- BEGIN R
                            have HKd : Hid _ := hk
                            clear hk
                            have e1 : w13.cell? ⟨bO, 1, none⟩ = some (.int .u64 (tx i : Int)) := cell_of _ _ 1 _ _ HB3.out
                            have e2 : w13.cell? ⟨bO, 2, none⟩ = some (.string (kstr (ky i))) := cell_of _ _ 2 _ _ HB3.out
                            have e3 : w13.cell? ⟨bO, 3, none⟩ = some (.string ⟨#[]⟩) := cell_of _ _ 3 _ _ HB3.out
                            have e4 : w13.cell? ⟨bO, 4, none⟩ = some (.bool false) := cell_of _ _ 4 _ _ HB3.out
                            have e5 : w13.cell? ⟨bO, 5, none⟩ = some (.int .u64 0) := cell_of _ _ 5 _ _ HB3.out
                            have e6 : w13.cell? ⟨bO, 6, none⟩ = some (.slice none 0 0) := cell_of _ _ 6 _ _ HB3.out
                            have hky : ky i < 3 := by have := HO.out.hk i hlt; have := HKd.out; omega
                            have HFk : Hid (∀ W, Keep (fun _ => False) w13 W → ∃ gn, gn ≤ i + 1 ∧ SX (SSd Z b32 b33) w11 Z (Z + 2) TA TC OV OC NK M (i + 1) gn W) := fun W k => ⟨gn, by omega, _, _, _, _, _, _, _, HSW.out.quiet k, HOK.out, fun x hx => by have := HLB.out x hx; omega⟩
                            have c5 : w13.cell? ⟨B + 2, 0, none⟩ = some (.pointer (some ⟨KS, 0, none⟩)) := cell_of _ _ 0 _ _ h5.e2.b5
                            by_cases hfi : (i : Int) < wrap64 fv
                            · go_wp2
                              go_roundg (M - (i + 1))
                              case measure => omega
                              case rel => exact ⟨i + 1, p, q, by omega, rfl, rfl, by go_num, rfl, HFk.out _ (Keep.refl _ _)⟩
                            · have HC := fun (_ : Unit) => (span_any KS NK wt num sx mb sa sc mn 114 (tx i) (ky i) w13 (HSE.out.keep HSW.out.k).ks (.inl rfl) hky).mono (fun e w' h => (⟨h.1, h.2⟩ : RetSpan wt num (ky i) e ∧ Hid (Keep (fun _ => False) w13 w')))
                              go_upto_region 76 with (go_at_call 37; refine (HC ()).mono ?_; rintro e w14 ⟨⟨lo, hi', rfl, hspan⟩, HK14⟩)
                              clear HC e0 e1 e2 e3 e4 e5 e6 c5 hfi
                              have HB4 : Hid _ := HK14.out.at HB3.out id
                              have HSW4 : Hid _ := HSW.out.quiet HK14.out
                              have h54 := h5.keep HK14.out (fun _ q => q.elim)
                              clear h5
                              rcases hspan with ⟨hw, rfl, rfl⟩ | ⟨hw, rfl, rfl⟩
                              · have hx := HS.out.nlt _ hky hw
                                obtain ⟨x, hxe⟩ : ∃ x, x = num (ky i) := ⟨_, rfl⟩
                                rw [← hxe] at hx ⊢
                                rw [show ((x + 1 : Nat) : Int) = (x : Int) + 1 from by omega]
                                clear hxe hw
                                have x1 : (x : Int) < (NK : Int) := by omega
                                have x2 : (x : Int).toNat = x := by omega
                                have x3 : (x : Int) + 1 < (NK : Int) + 1 := by omega
                                have x4 : ((x : Int) + 1).toNat = x + 1 := by omega
                                have x5 : (x : Int) < (NK : Int) + 1 := by omega
                                have hd1 : decide ((x : Int) + 1 ≤ (x : Int)) = false := by simp; omega
                                have e1 : w14.cell? ⟨bO, 1, none⟩ = some (.int .u64 (tx i : Int)) := cell_of _ _ 1 _ _ HB4.out
                                have s0 := h54.sp.cell x (by omega)
                                have s1 := h54.sp.cell (x + 1) (by omega)
                                have c4 : w14.cell? ⟨B + 1, 0, none⟩ = some (.map (some EM)) := cell_of _ _ 0 _ _ h54.e2.b4
                                obtain ⟨v, ⟨z, rfl⟩, hL⟩ := (MQ.keep HEM.out h54.e2.k id).looks Ybaz.underlying46 zero28 ⟨0, rfl⟩ (tx i) ht.2
                                have hL2 := fun nq => hL (w14.drewN nq) ((Keep.refl _ _).drewN nq)
                                clear hL
                                by_cases hfe : f (x + 1) = f x
                                · have hd2 : (f (x + 1) == f x) = true := by simpa using hfe
                                  have hd3 : decide (f (x + 1) = f x) = true := by simpa using hfe
                                  clear hfe
                                  go_quiet (fail)
                                  have k15 : Keep (fun _ => False) w14 (w14.drewN nq) := (Keep.refl _ _).drewN nq
                                  have HK15 : Hid (Keep (fun _ => False) w13 (w14.drewN nq)) := HK14.out.trans k15 (fun _ q => q.elim)
                                  clear k15
                                  clear s0 s1 c4 hL2 e1 hd1 hd2 hd3 h54
                                  generalize w14.drewN nq = w15 at *
                                  go_wp2
                                  go_roundg (M - (i + 1))
                                  case measure => omega
                                  case rel => exact ⟨i + 1, p, q, by omega, rfl, rfl, by go_num, rfl, HFk.out _ HK15.out⟩
                                · have hd2 : (f (x + 1) == f x) = false := by simpa using hfe
                                  have hd3 : decide (f (x + 1) = f x) = false := by simpa using hfe
                                  by_cases hz : z = 99
                                  · subst hz
                                    go_quiet (fail)
                                    have k15 : Keep (fun _ => False) w14 (w14.drewN nq) := (Keep.refl _ _).drewN nq
                                    have HKw15 : Hid (Keep (fun _ => False) w13 (w14.drewN nq)) := HK14.out.trans k15 (fun _ q => q.elim)
                                    clear k15 s0 s1 c4 hL2 e1 hd1 hd2 hd3 h54 HB4 HSW4 hfe
                                    generalize w14.drewN nq = w15 at *
                                    have c32 : w15.cell? ⟨b32, 0, none⟩ = some (.pointer (some ⟨TA, 0, none⟩)) := cell_of _ _ 0 _ _ (HSE.out.keep (HSW.out.quiet HKw15.out).k).v32
                                    have HC1 := fun (_ : Unit) => (kfirst_one TA TC NK x c1 w15 (HSW.out.quiet HKw15.out).t hnk hx).mono (fun e w' h => (⟨h.1, h.2⟩ : KFirst x c1 e ∧ Hid (Keep (fun _ => False) w15 w')))
                                    go_upto_region 78 with (go_at_call 126; refine (HC1 ()).mono ?_; rintro e w16 ⟨⟨r1, rfl, hr1⟩, HK16⟩)
                                    have HKw16 : Hid (Keep (fun _ => False) w13 w16) := HKw15.out.trans HK16.out (fun _ q => q.elim)
                                    clear HC1 c32 HK16
                                    cases p with
                                    | some pa =>
                                      clear hr1
                                      go_upto_region 80 with fail
                                      have c33 : w16.cell? ⟨b33, 0, none⟩ = some (.pointer (some ⟨OV, 0, none⟩)) := cell_of _ _ 0 _ _ (HSE.out.keep (HSW.out.quiet HKw16.out).k).v33
                                      have HC2 := fun (_ : Unit) => (kfirst_one OV OC NK x c2 w16 (HSW.out.quiet HKw16.out).o hnk hx).mono (fun e w' h => (⟨h.1, h.2⟩ : KFirst x c2 e ∧ Hid (Keep (fun _ => False) w16 w')))
                                      go_wp2_with (go_at_call 126; refine (HC2 ()).mono ?_; rintro e y1 ⟨⟨r2, rfl, hr2⟩, HKa⟩)
                                      have HKy1 : Hid (Keep (fun _ => False) w13 y1) := HKw16.out.trans HKa.out (fun _ q => q.elim)
                                      clear c33 HC2 HKa
                                      cases q with
                                      | some qa =>
                                        clear hr2
                                        refine wp_loop_once ?_
                                        go_wp2
                                        obtain ⟨h1, h2, h3⟩ := HEnd.out _ (HSW.out.quiet HKy1.out).k
                                        refine leaves_marks (B := C + 4) ds _ h1 (fun W' k => ?_)
                                        exact ⟨_, results_tmp2 rfl _ _ _, ⟨_, _, rfl⟩, h2.trans k (fun b q => .inr (by omega))⟩
                                      | none =>
                                        rcases hr2 with ⟨hc2, rfl⟩ | ⟨hc2, rfl⟩
                                        · have hs6 := HSW.out.quiet HKy1.out
                                          have hl6 := HOK.out x hx (Or.inr hc2)
                                          obtain ⟨gv, hgv, hgl, hrow⟩ := (hs6.vec x hx).row hl6
                                          obtain ⟨lv, hlv⟩ : ∃ lv, lv = ln6 x - 1 := ⟨_, rfl⟩
                                          have hqM := hs6.lt x lv hx (by omega)
                                          have eg := hrow.cell lv (by omega)
                                          obtain ⟨qq, hqq⟩ : ∃ qq, qq = wv6 x lv := ⟨_, rfl⟩
                                          rw [← hqq] at eg hqM
                                          have et := ((HSE.out.keep hs6.k).op.cell qq hqM).2.1
                                          have c30 : y1.cell? ⟨Z + 1, 0, none⟩ = some (.slice (some ⟨Z, 0, none⟩) NK NK) := cell_of _ _ 0 _ _ (HSE.out.keep hs6.k).v30
                                          have c3 : y1.cell? ⟨B, 0, none⟩ = some (.slice (some ⟨OB, 0, none⟩) M oc) := cell_of _ _ 0 _ _ (HSE.out.keep hs6.k).b3
                                          have cp := hs6.row.cell x hx
                                          rw [hgv] at cp
                                          obtain ⟨Lv, hLv⟩ : ∃ Lv, Lv = ln6 x := ⟨_, rfl⟩
                                          obtain ⟨cv, hcv⟩ : ∃ cv, cv = wc6 x := ⟨_, rfl⟩
                                          rw [← hLv, ← hcv] at cp
                                          have hLB := HLB.out x hx
                                          have l1 : (Lv : Int) - 1 = (lv : Int) := by omega
                                          have l2 : (lv : Int) < (Lv : Int) := by omega
                                          have l3 : (lv : Int).toNat = lv := by omega
                                          have l4 : (Lv : Int) ≤ 2000 := by omega
                                          have lw : IntKind.i64.wrap (lv : Int) = (lv : Int) := by unfold IntKind.wrap; simp [IntKind.bits, IntKind.signed]; omega
                                          have q1 : (qq : Int) < (M : Int) := by omega
                                          have q2 : (qq : Int).toNat = qq := by omega
                                          have e1 : y1.cell? ⟨bO, 1, none⟩ = some (.int .u64 (tx i : Int)) := cell_of _ _ 1 _ _ (HKy1.out.at HB3.out id)
                                          clear hs6 hrow hlv hqq hLv hcv hgl hLB
                                          refine wp_loop_rounds 2 ?_
                                          rw [rounds_succ]
                                          go_upto_region 84 with fail
                                          by_cases htx : tx qq = tx i
                                          · have t1 : ((tx qq : Int) == (tx i : Int)) = true := by simp; omega
                                            have t2 : (tx qq : Int) = (tx i : Int) := by omega
                                            have t3 : ((tx qq : Int) != (tx i : Int)) = false := by simp; omega
                                            have t4 : decide (tx qq = tx i) = true := by simpa using htx
                                            go_quiet (fail)
                                            have k2 : Keep (fun _ => False) y1 (y1.drewN nq) := (Keep.refl _ _).drewN nq
                                            have HKy2 : Hid (Keep (fun _ => False) w13 (y1.drewN nq)) := HKy1.out.trans k2 (fun _ q => q.elim)
                                            clear k2 eg et c30 c3 cp e1 lw htx t1 t2 t3 t4
                                            generalize y1.drewN nq = y2 at *
                                            have c33 : y2.cell? ⟨b33, 0, none⟩ = some (.pointer (some ⟨OV, 0, none⟩)) := cell_of _ _ 0 _ _ (HSE.out.keep (HSW.out.quiet HKy2.out).k).v33
                                            have HC3 : Unit → Calls Ybaz.prog 126 #[.pointer (some ⟨OV, 0, none⟩), .int .i64 ((x : Int) + 1), .int .i64 ((x : Int) + 1)] y2 fun e w' => e = .returned (.int .i64 (-1)) ∧ Hid (Keep (fun _ => False) y2 w') := fun _ => by
                                              have h := kfirst_none OV OC NK (x + 1) c2 y2 (HSW.out.quiet HKy2.out).o hnk (by omega)
                                              rw [show ((x + 1 : Nat) : Int) = (x : Int) + 1 from by omega] at h
                                              exact h.mono (fun e w' h => ⟨h.1, h.2⟩)
                                            go_wp2_with (go_at_call 126; refine (HC3 ()).mono ?_; rintro e y4 ⟨rfl, HKa⟩)
                                            have HKy4 : Hid (Keep (fun _ => False) w13 y4) := HKy2.out.trans HKa.out (fun _ q => q.elim)
                                            clear c33 HC3 HKa
                                            rw [rounds_succ]
                                            go_wp2
                                            go_roundg (M - (i + 1))
                                            case measure => omega
                                            case rel => exact ⟨i + 1, _, _, by omega, rfl, rfl, by go_num, rfl, HFk.out _ HKy4.out⟩
                                          · have t1 : ((tx qq : Int) == (tx i : Int)) = false := by simp; omega
                                            have t2 : ¬ (tx qq : Int) = (tx i : Int) := by omega
                                            have t3 : ((tx qq : Int) != (tx i : Int)) = true := by simp; omega
                                            have t4 : decide (tx qq = tx i) = false := by simpa using htx
                                            go_quiet (fail)
                                            have k2 : Keep (fun _ => False) y1 (y1.drewN nq) := (Keep.refl _ _).drewN nq
                                            have HKy2 : Hid (Keep (fun _ => False) w13 (y1.drewN nq)) := HKy1.out.trans k2 (fun _ q => q.elim)
                                            clear k2 eg et c30 c3 cp e1 lw htx t1 t2 t3 t4
                                            generalize y1.drewN nq = y2 at *
                                            have HB6 := HKy2.out.at HB3.out id
                                            have e0 : y2.cell? ⟨bO, 0, none⟩ = some (.int .u8 114) := by have := cell_of _ _ 0 _ _ HB6; rw [HKd.out] at this; exact this
                                            have e1 : y2.cell? ⟨bO, 1, none⟩ = some (.int .u64 (tx i : Int)) := cell_of _ _ 1 _ _ HB6
                                            have e2 : y2.cell? ⟨bO, 2, none⟩ = some (.string (kstr (ky i))) := cell_of _ _ 2 _ _ HB6
                                            have e3 : y2.cell? ⟨bO, 3, none⟩ = some (.string ⟨#[]⟩) := cell_of _ _ 3 _ _ HB6
                                            have e4 : y2.cell? ⟨bO, 4, none⟩ = some (.bool false) := cell_of _ _ 4 _ _ HB6
                                            have e5 : y2.cell? ⟨bO, 5, none⟩ = some (.int .u64 0) := cell_of _ _ 5 _ _ HB6
                                            have e6 : y2.cell? ⟨bO, 6, none⟩ = some (.slice none 0 0) := cell_of _ _ 6 _ _ HB6
                                            have HRO := fun (_ : Unit) => (readOf_any (SSd Z b32 b33) w11 B (B + 1) (B + 2) (C + 1) (Z + 1) (Z + 3) b32 b33 OB M oc kd tx ky EM en C fb KS NK wt num sx mb sa sc mn Z (Z + 2) TA TC OV OC i gn x _ _ _ _ _ _ _ y2 HSE.out (HSW.out.quiet HKy2.out) HLB.out (by omega) hx (HOK.out x hx (Or.inr hc2)) 114 (tx i) (kstr (ky i)) ⟨#[]⟩ false 0).mono (fun e w' h => (⟨h.1, h.2⟩ : RetPt e ∧ Hid (Keep (fun _ => False) y2 w')))
                                            clear HB6
                                            go_upto_region 82 with (go_at_call 125; refine (HRO ()).mono ?_; rintro e y3 ⟨⟨gq, rfl⟩, HK17⟩)
                                            have HKy3 : Hid (Keep (fun _ => False) w13 y3) := HKy2.out.trans HK17.out (fun _ q => q.elim)
                                            clear HRO e0 e1 e2 e3 e4 e5 e6 HK17
                                            have c33 : y3.cell? ⟨b33, 0, none⟩ = some (.pointer (some ⟨OV, 0, none⟩)) := cell_of _ _ 0 _ _ (HSE.out.keep (HSW.out.quiet HKy3.out).k).v33
                                            have HC3 : Unit → Calls Ybaz.prog 126 #[.pointer (some ⟨OV, 0, none⟩), .int .i64 ((x : Int) + 1), .int .i64 ((x : Int) + 1)] y3 fun e w' => e = .returned (.int .i64 (-1)) ∧ Hid (Keep (fun _ => False) y3 w') := fun _ => by
                                              have h := kfirst_none OV OC NK (x + 1) c2 y3 (HSW.out.quiet HKy3.out).o hnk (by omega)
                                              rw [show ((x + 1 : Nat) : Int) = (x : Int) + 1 from by omega] at h
                                              exact h.mono (fun e w' h => ⟨h.1, h.2⟩)
                                            go_wp2_with (go_at_call 126; refine (HC3 ()).mono ?_; rintro e y4 ⟨rfl, HKa⟩)
                                            have HKy4 : Hid (Keep (fun _ => False) w13 y4) := HKy3.out.trans HKa.out (fun _ q => q.elim)
                                            clear c33 HC3 HKa
                                            rw [rounds_succ]
                                            go_wp2
                                            obtain ⟨h1, h2, h3⟩ := HEnd.out _ (HSW.out.quiet HKy4.out).k
                                            refine leaves_marks (B := C + 4) ds _ h1 (fun W' k => ?_)
                                            exact ⟨_, results_tmp2 rfl _ _ _, ⟨_, _, rfl⟩, h2.trans k (fun b q => .inr (by omega))⟩
                                        · refine wp_loop_once ?_
                                          go_wp2
                                          go_roundg (M - (i + 1))
                                          case measure => omega
                                          case rel => exact ⟨i + 1, _, _, by omega, rfl, rfl, by go_num, rfl, HFk.out _ HKy1.out⟩
                                    | none =>
                                      rcases hr1 with ⟨hc1, rfl⟩ | ⟨hc1, rfl⟩
                                      · have HB6 := HKw16.out.at HB3.out id
                                        have e0 : w16.cell? ⟨bO, 0, none⟩ = some (.int .u8 114) := by have := cell_of _ _ 0 _ _ HB6; rw [HKd.out] at this; exact this
                                        have e1 : w16.cell? ⟨bO, 1, none⟩ = some (.int .u64 (tx i : Int)) := cell_of _ _ 1 _ _ HB6
                                        have e2 : w16.cell? ⟨bO, 2, none⟩ = some (.string (kstr (ky i))) := cell_of _ _ 2 _ _ HB6
                                        have e3 : w16.cell? ⟨bO, 3, none⟩ = some (.string ⟨#[]⟩) := cell_of _ _ 3 _ _ HB6
                                        have e4 : w16.cell? ⟨bO, 4, none⟩ = some (.bool false) := cell_of _ _ 4 _ _ HB6
                                        have e5 : w16.cell? ⟨bO, 5, none⟩ = some (.int .u64 0) := cell_of _ _ 5 _ _ HB6
                                        have e6 : w16.cell? ⟨bO, 6, none⟩ = some (.slice none 0 0) := cell_of _ _ 6 _ _ HB6
                                        have HRO := fun (_ : Unit) => (readOf_any (SSd Z b32 b33) w11 B (B + 1) (B + 2) (C + 1) (Z + 1) (Z + 3) b32 b33 OB M oc kd tx ky EM en C fb KS NK wt num sx mb sa sc mn Z (Z + 2) TA TC OV OC i gn x _ _ _ _ _ _ _ w16 HSE.out (HSW.out.quiet HKw16.out) HLB.out (by omega) hx (HOK.out x hx (Or.inl hc1)) 114 (tx i) (kstr (ky i)) ⟨#[]⟩ false 0).mono (fun e w' h => (⟨h.1, h.2⟩ : RetPt e ∧ Hid (Keep (fun _ => False) w16 w')))
                                        clear HB6
                                        go_upto_region 80 with (go_at_call 125; refine (HRO ()).mono ?_; rintro e w17 ⟨⟨gp, rfl⟩, HK17⟩)
                                        have HKw17 : Hid (Keep (fun _ => False) w13 w17) := HKw16.out.trans HK17.out (fun _ q => q.elim)
                                        clear HRO e0 e1 e2 e3 e4 e5 e6 HK17
                                        have c33 : w17.cell? ⟨b33, 0, none⟩ = some (.pointer (some ⟨OV, 0, none⟩)) := cell_of _ _ 0 _ _ (HSE.out.keep (HSW.out.quiet HKw17.out).k).v33
                                        have HC2 := fun (_ : Unit) => (kfirst_one OV OC NK x c2 w17 (HSW.out.quiet HKw17.out).o hnk hx).mono (fun e w' h => (⟨h.1, h.2⟩ : KFirst x c2 e ∧ Hid (Keep (fun _ => False) w17 w')))
                                        go_wp2_with (go_at_call 126; refine (HC2 ()).mono ?_; rintro e y1 ⟨⟨r2, rfl, hr2⟩, HKa⟩)
                                        have HKy1 : Hid (Keep (fun _ => False) w13 y1) := HKw17.out.trans HKa.out (fun _ q => q.elim)
                                        clear c33 HC2 HKa
                                        cases q with
                                        | some qa =>
                                          clear hr2
                                          refine wp_loop_once ?_
                                          go_wp2
                                          obtain ⟨h1, h2, h3⟩ := HEnd.out _ (HSW.out.quiet HKy1.out).k
                                          refine leaves_marks (B := C + 4) ds _ h1 (fun W' k => ?_)
                                          exact ⟨_, results_tmp2 rfl _ _ _, ⟨_, _, rfl⟩, h2.trans k (fun b q => .inr (by omega))⟩
                                        | none =>
                                          rcases hr2 with ⟨hc2, rfl⟩ | ⟨hc2, rfl⟩
                                          · have hs6 := HSW.out.quiet HKy1.out
                                            have hl6 := HOK.out x hx (Or.inr hc2)
                                            obtain ⟨gv, hgv, hgl, hrow⟩ := (hs6.vec x hx).row hl6
                                            obtain ⟨lv, hlv⟩ : ∃ lv, lv = ln6 x - 1 := ⟨_, rfl⟩
                                            have hqM := hs6.lt x lv hx (by omega)
                                            have eg := hrow.cell lv (by omega)
                                            obtain ⟨qq, hqq⟩ : ∃ qq, qq = wv6 x lv := ⟨_, rfl⟩
                                            rw [← hqq] at eg hqM
                                            have et := ((HSE.out.keep hs6.k).op.cell qq hqM).2.1
                                            have c30 : y1.cell? ⟨Z + 1, 0, none⟩ = some (.slice (some ⟨Z, 0, none⟩) NK NK) := cell_of _ _ 0 _ _ (HSE.out.keep hs6.k).v30
                                            have c3 : y1.cell? ⟨B, 0, none⟩ = some (.slice (some ⟨OB, 0, none⟩) M oc) := cell_of _ _ 0 _ _ (HSE.out.keep hs6.k).b3
                                            have cp := hs6.row.cell x hx
                                            rw [hgv] at cp
                                            obtain ⟨Lv, hLv⟩ : ∃ Lv, Lv = ln6 x := ⟨_, rfl⟩
                                            obtain ⟨cv, hcv⟩ : ∃ cv, cv = wc6 x := ⟨_, rfl⟩
                                            rw [← hLv, ← hcv] at cp
                                            have hLB := HLB.out x hx
                                            have l1 : (Lv : Int) - 1 = (lv : Int) := by omega
                                            have l2 : (lv : Int) < (Lv : Int) := by omega
                                            have l3 : (lv : Int).toNat = lv := by omega
                                            have l4 : (Lv : Int) ≤ 2000 := by omega
                                            have lw : IntKind.i64.wrap (lv : Int) = (lv : Int) := by unfold IntKind.wrap; simp [IntKind.bits, IntKind.signed]; omega
                                            have q1 : (qq : Int) < (M : Int) := by omega
                                            have q2 : (qq : Int).toNat = qq := by omega
                                            have e1 : y1.cell? ⟨bO, 1, none⟩ = some (.int .u64 (tx i : Int)) := cell_of _ _ 1 _ _ (HKy1.out.at HB3.out id)
                                            clear hs6 hrow hlv hqq hLv hcv hgl hLB
                                            refine wp_loop_rounds 2 ?_
                                            rw [rounds_succ]
                                            go_upto_region 84 with fail
                                            by_cases htx : tx qq = tx i
                                            · have t1 : ((tx qq : Int) == (tx i : Int)) = true := by simp; omega
                                              have t2 : (tx qq : Int) = (tx i : Int) := by omega
                                              have t3 : ((tx qq : Int) != (tx i : Int)) = false := by simp; omega
                                              have t4 : decide (tx qq = tx i) = true := by simpa using htx
                                              go_quiet (fail)
                                              have k2 : Keep (fun _ => False) y1 (y1.drewN nq) := (Keep.refl _ _).drewN nq
                                              have HKy2 : Hid (Keep (fun _ => False) w13 (y1.drewN nq)) := HKy1.out.trans k2 (fun _ q => q.elim)
                                              clear k2 eg et c30 c3 cp e1 lw htx t1 t2 t3 t4
                                              generalize y1.drewN nq = y2 at *
                                              have c33 : y2.cell? ⟨b33, 0, none⟩ = some (.pointer (some ⟨OV, 0, none⟩)) := cell_of _ _ 0 _ _ (HSE.out.keep (HSW.out.quiet HKy2.out).k).v33
                                              have HC3 : Unit → Calls Ybaz.prog 126 #[.pointer (some ⟨OV, 0, none⟩), .int .i64 ((x : Int) + 1), .int .i64 ((x : Int) + 1)] y2 fun e w' => e = .returned (.int .i64 (-1)) ∧ Hid (Keep (fun _ => False) y2 w') := fun _ => by
                                                have h := kfirst_none OV OC NK (x + 1) c2 y2 (HSW.out.quiet HKy2.out).o hnk (by omega)
                                                rw [show ((x + 1 : Nat) : Int) = (x : Int) + 1 from by omega] at h
                                                exact h.mono (fun e w' h => ⟨h.1, h.2⟩)
                                              go_wp2_with (go_at_call 126; refine (HC3 ()).mono ?_; rintro e y4 ⟨rfl, HKa⟩)
                                              have HKy4 : Hid (Keep (fun _ => False) w13 y4) := HKy2.out.trans HKa.out (fun _ q => q.elim)
                                              clear c33 HC3 HKa
                                              rw [rounds_succ]
                                              go_wp2
                                              go_roundg (M - (i + 1))
                                              case measure => omega
                                              case rel => exact ⟨i + 1, _, _, by omega, rfl, rfl, by go_num, rfl, HFk.out _ HKy4.out⟩
                                            · have t1 : ((tx qq : Int) == (tx i : Int)) = false := by simp; omega
                                              have t2 : ¬ (tx qq : Int) = (tx i : Int) := by omega
                                              have t3 : ((tx qq : Int) != (tx i : Int)) = true := by simp; omega
                                              have t4 : decide (tx qq = tx i) = false := by simpa using htx
                                              go_quiet (fail)
                                              have k2 : Keep (fun _ => False) y1 (y1.drewN nq) := (Keep.refl _ _).drewN nq
                                              have HKy2 : Hid (Keep (fun _ => False) w13 (y1.drewN nq)) := HKy1.out.trans k2 (fun _ q => q.elim)
                                              clear k2 eg et c30 c3 cp e1 lw htx t1 t2 t3 t4
                                              generalize y1.drewN nq = y2 at *
                                              have HB6 := HKy2.out.at HB3.out id
                                              have e0 : y2.cell? ⟨bO, 0, none⟩ = some (.int .u8 114) := by have := cell_of _ _ 0 _ _ HB6; rw [HKd.out] at this; exact this
                                              have e1 : y2.cell? ⟨bO, 1, none⟩ = some (.int .u64 (tx i : Int)) := cell_of _ _ 1 _ _ HB6
                                              have e2 : y2.cell? ⟨bO, 2, none⟩ = some (.string (kstr (ky i))) := cell_of _ _ 2 _ _ HB6
                                              have e3 : y2.cell? ⟨bO, 3, none⟩ = some (.string ⟨#[]⟩) := cell_of _ _ 3 _ _ HB6
                                              have e4 : y2.cell? ⟨bO, 4, none⟩ = some (.bool false) := cell_of _ _ 4 _ _ HB6
                                              have e5 : y2.cell? ⟨bO, 5, none⟩ = some (.int .u64 0) := cell_of _ _ 5 _ _ HB6
                                              have e6 : y2.cell? ⟨bO, 6, none⟩ = some (.slice none 0 0) := cell_of _ _ 6 _ _ HB6
                                              have HRO := fun (_ : Unit) => (readOf_any (SSd Z b32 b33) w11 B (B + 1) (B + 2) (C + 1) (Z + 1) (Z + 3) b32 b33 OB M oc kd tx ky EM en C fb KS NK wt num sx mb sa sc mn Z (Z + 2) TA TC OV OC i gn x _ _ _ _ _ _ _ y2 HSE.out (HSW.out.quiet HKy2.out) HLB.out (by omega) hx (HOK.out x hx (Or.inr hc2)) 114 (tx i) (kstr (ky i)) ⟨#[]⟩ false 0).mono (fun e w' h => (⟨h.1, h.2⟩ : RetPt e ∧ Hid (Keep (fun _ => False) y2 w')))
                                              clear HB6
                                              go_upto_region 82 with (go_at_call 125; refine (HRO ()).mono ?_; rintro e y3 ⟨⟨gq, rfl⟩, HK17⟩)
                                              have HKy3 : Hid (Keep (fun _ => False) w13 y3) := HKy2.out.trans HK17.out (fun _ q => q.elim)
                                              clear HRO e0 e1 e2 e3 e4 e5 e6 HK17
                                              have c33 : y3.cell? ⟨b33, 0, none⟩ = some (.pointer (some ⟨OV, 0, none⟩)) := cell_of _ _ 0 _ _ (HSE.out.keep (HSW.out.quiet HKy3.out).k).v33
                                              have HC3 : Unit → Calls Ybaz.prog 126 #[.pointer (some ⟨OV, 0, none⟩), .int .i64 ((x : Int) + 1), .int .i64 ((x : Int) + 1)] y3 fun e w' => e = .returned (.int .i64 (-1)) ∧ Hid (Keep (fun _ => False) y3 w') := fun _ => by
                                                have h := kfirst_none OV OC NK (x + 1) c2 y3 (HSW.out.quiet HKy3.out).o hnk (by omega)
                                                rw [show ((x + 1 : Nat) : Int) = (x : Int) + 1 from by omega] at h
                                                exact h.mono (fun e w' h => ⟨h.1, h.2⟩)
                                              go_wp2_with (go_at_call 126; refine (HC3 ()).mono ?_; rintro e y4 ⟨rfl, HKa⟩)
                                              have HKy4 : Hid (Keep (fun _ => False) w13 y4) := HKy3.out.trans HKa.out (fun _ q => q.elim)
                                              clear c33 HC3 HKa
                                              rw [rounds_succ]
                                              go_wp2
                                              obtain ⟨h1, h2, h3⟩ := HEnd.out _ (HSW.out.quiet HKy4.out).k
                                              refine leaves_marks (B := C + 4) ds _ h1 (fun W' k => ?_)
                                              exact ⟨_, results_tmp2 rfl _ _ _, ⟨_, _, rfl⟩, h2.trans k (fun b q => .inr (by omega))⟩
                                          · refine wp_loop_once ?_
                                            go_wp2
                                            go_roundg (M - (i + 1))
                                            case measure => omega
                                            case rel => exact ⟨i + 1, _, _, by omega, rfl, rfl, by go_num, rfl, HFk.out _ HKy1.out⟩
                                      · go_upto_region 80 with fail
                                        have c33 : w16.cell? ⟨b33, 0, none⟩ = some (.pointer (some ⟨OV, 0, none⟩)) := cell_of _ _ 0 _ _ (HSE.out.keep (HSW.out.quiet HKw16.out).k).v33
                                        have HC2 := fun (_ : Unit) => (kfirst_one OV OC NK x c2 w16 (HSW.out.quiet HKw16.out).o hnk hx).mono (fun e w' h => (⟨h.1, h.2⟩ : KFirst x c2 e ∧ Hid (Keep (fun _ => False) w16 w')))
                                        go_wp2_with (go_at_call 126; refine (HC2 ()).mono ?_; rintro e y1 ⟨⟨r2, rfl, hr2⟩, HKa⟩)
                                        have HKy1 : Hid (Keep (fun _ => False) w13 y1) := HKw16.out.trans HKa.out (fun _ q => q.elim)
                                        clear c33 HC2 HKa
                                        cases q with
                                        | some qa =>
                                          clear hr2
                                          refine wp_loop_once ?_
                                          go_wp2
                                          go_roundg (M - (i + 1))
                                          case measure => omega
                                          case rel => exact ⟨i + 1, _, _, by omega, rfl, rfl, by go_num, rfl, HFk.out _ HKy1.out⟩
                                        | none =>
                                          rcases hr2 with ⟨hc2, rfl⟩ | ⟨hc2, rfl⟩
                                          · have hs6 := HSW.out.quiet HKy1.out
                                            have hl6 := HOK.out x hx (Or.inr hc2)
                                            obtain ⟨gv, hgv, hgl, hrow⟩ := (hs6.vec x hx).row hl6
                                            obtain ⟨lv, hlv⟩ : ∃ lv, lv = ln6 x - 1 := ⟨_, rfl⟩
                                            have hqM := hs6.lt x lv hx (by omega)
                                            have eg := hrow.cell lv (by omega)
                                            obtain ⟨qq, hqq⟩ : ∃ qq, qq = wv6 x lv := ⟨_, rfl⟩
                                            rw [← hqq] at eg hqM
                                            have et := ((HSE.out.keep hs6.k).op.cell qq hqM).2.1
                                            have c30 : y1.cell? ⟨Z + 1, 0, none⟩ = some (.slice (some ⟨Z, 0, none⟩) NK NK) := cell_of _ _ 0 _ _ (HSE.out.keep hs6.k).v30
                                            have c3 : y1.cell? ⟨B, 0, none⟩ = some (.slice (some ⟨OB, 0, none⟩) M oc) := cell_of _ _ 0 _ _ (HSE.out.keep hs6.k).b3
                                            have cp := hs6.row.cell x hx
                                            rw [hgv] at cp
                                            obtain ⟨Lv, hLv⟩ : ∃ Lv, Lv = ln6 x := ⟨_, rfl⟩
                                            obtain ⟨cv, hcv⟩ : ∃ cv, cv = wc6 x := ⟨_, rfl⟩
                                            rw [← hLv, ← hcv] at cp
                                            have hLB := HLB.out x hx
                                            have l1 : (Lv : Int) - 1 = (lv : Int) := by omega
                                            have l2 : (lv : Int) < (Lv : Int) := by omega
                                            have l3 : (lv : Int).toNat = lv := by omega
                                            have l4 : (Lv : Int) ≤ 2000 := by omega
                                            have lw : IntKind.i64.wrap (lv : Int) = (lv : Int) := by unfold IntKind.wrap; simp [IntKind.bits, IntKind.signed]; omega
                                            have q1 : (qq : Int) < (M : Int) := by omega
                                            have q2 : (qq : Int).toNat = qq := by omega
                                            have e1 : y1.cell? ⟨bO, 1, none⟩ = some (.int .u64 (tx i : Int)) := cell_of _ _ 1 _ _ (HKy1.out.at HB3.out id)
                                            clear hs6 hrow hlv hqq hLv hcv hgl hLB
                                            refine wp_loop_rounds 2 ?_
                                            rw [rounds_succ]
                                            go_upto_region 84 with fail
                                            by_cases htx : tx qq = tx i
                                            · have t1 : ((tx qq : Int) == (tx i : Int)) = true := by simp; omega
                                              have t2 : (tx qq : Int) = (tx i : Int) := by omega
                                              have t3 : ((tx qq : Int) != (tx i : Int)) = false := by simp; omega
                                              have t4 : decide (tx qq = tx i) = true := by simpa using htx
                                              go_quiet (fail)
                                              have k2 : Keep (fun _ => False) y1 (y1.drewN nq) := (Keep.refl _ _).drewN nq
                                              have HKy2 : Hid (Keep (fun _ => False) w13 (y1.drewN nq)) := HKy1.out.trans k2 (fun _ q => q.elim)
                                              clear k2 eg et c30 c3 cp e1 lw htx t1 t2 t3 t4
                                              generalize y1.drewN nq = y2 at *
                                              have c33 : y2.cell? ⟨b33, 0, none⟩ = some (.pointer (some ⟨OV, 0, none⟩)) := cell_of _ _ 0 _ _ (HSE.out.keep (HSW.out.quiet HKy2.out).k).v33
                                              have HC3 : Unit → Calls Ybaz.prog 126 #[.pointer (some ⟨OV, 0, none⟩), .int .i64 ((x : Int) + 1), .int .i64 ((x : Int) + 1)] y2 fun e w' => e = .returned (.int .i64 (-1)) ∧ Hid (Keep (fun _ => False) y2 w') := fun _ => by
                                                have h := kfirst_none OV OC NK (x + 1) c2 y2 (HSW.out.quiet HKy2.out).o hnk (by omega)
                                                rw [show ((x + 1 : Nat) : Int) = (x : Int) + 1 from by omega] at h
                                                exact h.mono (fun e w' h => ⟨h.1, h.2⟩)
                                              go_wp2_with (go_at_call 126; refine (HC3 ()).mono ?_; rintro e y4 ⟨rfl, HKa⟩)
                                              have HKy4 : Hid (Keep (fun _ => False) w13 y4) := HKy2.out.trans HKa.out (fun _ q => q.elim)
                                              clear c33 HC3 HKa
                                              rw [rounds_succ]
                                              go_wp2
                                              go_roundg (M - (i + 1))
                                              case measure => omega
                                              case rel => exact ⟨i + 1, _, _, by omega, rfl, rfl, by go_num, rfl, HFk.out _ HKy4.out⟩
                                            · have t1 : ((tx qq : Int) == (tx i : Int)) = false := by simp; omega
                                              have t2 : ¬ (tx qq : Int) = (tx i : Int) := by omega
                                              have t3 : ((tx qq : Int) != (tx i : Int)) = true := by simp; omega
                                              have t4 : decide (tx qq = tx i) = false := by simpa using htx
                                              go_quiet (fail)
                                              have k2 : Keep (fun _ => False) y1 (y1.drewN nq) := (Keep.refl _ _).drewN nq
                                              have HKy2 : Hid (Keep (fun _ => False) w13 (y1.drewN nq)) := HKy1.out.trans k2 (fun _ q => q.elim)
                                              clear k2 eg et c30 c3 cp e1 lw htx t1 t2 t3 t4
                                              generalize y1.drewN nq = y2 at *
                                              have HB6 := HKy2.out.at HB3.out id
                                              have e0 : y2.cell? ⟨bO, 0, none⟩ = some (.int .u8 114) := by have := cell_of _ _ 0 _ _ HB6; rw [HKd.out] at this; exact this
                                              have e1 : y2.cell? ⟨bO, 1, none⟩ = some (.int .u64 (tx i : Int)) := cell_of _ _ 1 _ _ HB6
                                              have e2 : y2.cell? ⟨bO, 2, none⟩ = some (.string (kstr (ky i))) := cell_of _ _ 2 _ _ HB6
                                              have e3 : y2.cell? ⟨bO, 3, none⟩ = some (.string ⟨#[]⟩) := cell_of _ _ 3 _ _ HB6
                                              have e4 : y2.cell? ⟨bO, 4, none⟩ = some (.bool false) := cell_of _ _ 4 _ _ HB6
                                              have e5 : y2.cell? ⟨bO, 5, none⟩ = some (.int .u64 0) := cell_of _ _ 5 _ _ HB6
                                              have e6 : y2.cell? ⟨bO, 6, none⟩ = some (.slice none 0 0) := cell_of _ _ 6 _ _ HB6
                                              have HRO := fun (_ : Unit) => (readOf_any (SSd Z b32 b33) w11 B (B + 1) (B + 2) (C + 1) (Z + 1) (Z + 3) b32 b33 OB M oc kd tx ky EM en C fb KS NK wt num sx mb sa sc mn Z (Z + 2) TA TC OV OC i gn x _ _ _ _ _ _ _ y2 HSE.out (HSW.out.quiet HKy2.out) HLB.out (by omega) hx (HOK.out x hx (Or.inr hc2)) 114 (tx i) (kstr (ky i)) ⟨#[]⟩ false 0).mono (fun e w' h => (⟨h.1, h.2⟩ : RetPt e ∧ Hid (Keep (fun _ => False) y2 w')))
                                              clear HB6
                                              go_upto_region 82 with (go_at_call 125; refine (HRO ()).mono ?_; rintro e y3 ⟨⟨gq, rfl⟩, HK17⟩)
                                              have HKy3 : Hid (Keep (fun _ => False) w13 y3) := HKy2.out.trans HK17.out (fun _ q => q.elim)
                                              clear HRO e0 e1 e2 e3 e4 e5 e6 HK17
                                              have c33 : y3.cell? ⟨b33, 0, none⟩ = some (.pointer (some ⟨OV, 0, none⟩)) := cell_of _ _ 0 _ _ (HSE.out.keep (HSW.out.quiet HKy3.out).k).v33
                                              have HC3 : Unit → Calls Ybaz.prog 126 #[.pointer (some ⟨OV, 0, none⟩), .int .i64 ((x : Int) + 1), .int .i64 ((x : Int) + 1)] y3 fun e w' => e = .returned (.int .i64 (-1)) ∧ Hid (Keep (fun _ => False) y3 w') := fun _ => by
                                                have h := kfirst_none OV OC NK (x + 1) c2 y3 (HSW.out.quiet HKy3.out).o hnk (by omega)
                                                rw [show ((x + 1 : Nat) : Int) = (x : Int) + 1 from by omega] at h
                                                exact h.mono (fun e w' h => ⟨h.1, h.2⟩)
                                              go_wp2_with (go_at_call 126; refine (HC3 ()).mono ?_; rintro e y4 ⟨rfl, HKa⟩)
                                              have HKy4 : Hid (Keep (fun _ => False) w13 y4) := HKy3.out.trans HKa.out (fun _ q => q.elim)
                                              clear c33 HC3 HKa
                                              rw [rounds_succ]
                                              go_wp2
                                              go_roundg (M - (i + 1))
                                              case measure => omega
                                              case rel => exact ⟨i + 1, _, _, by omega, rfl, rfl, by go_num, rfl, HFk.out _ HKy4.out⟩
                                          · refine wp_loop_once ?_
                                            go_wp2
                                            go_roundg (M - (i + 1))
                                            case measure => omega
                                            case rel => exact ⟨i + 1, _, _, by omega, rfl, rfl, by go_num, rfl, HFk.out _ HKy1.out⟩
                                  · have hz2 : (z == 99) = false := by simpa using hz
                                    have hz3 : (z != 99) = true := by simpa using hz
                                    go_quiet (fail)
                                    have k15 : Keep (fun _ => False) w14 (w14.drewN nq) := (Keep.refl _ _).drewN nq
                                    have HK15 : Hid (Keep (fun _ => False) w13 (w14.drewN nq)) := HK14.out.trans k15 (fun _ q => q.elim)
                                    clear k15
                                    clear s0 s1 c4 hL2 e1 hd1 hd2 hd3 h54 hz2 hz3
                                    generalize w14.drewN nq = w15 at *
                                    go_wp2
                                    go_roundg (M - (i + 1))
                                    case measure => omega
                                    case rel => exact ⟨i + 1, p, q, by omega, rfl, rfl, by go_num, rfl, HFk.out _ HK15.out⟩
                              · go_quiet (fail)
                                have k15 : Keep (fun _ => False) w14 (w14.drewN nq) := (Keep.refl _ _).drewN nq
                                have HK15 : Hid (Keep (fun _ => False) w13 (w14.drewN nq)) := HK14.out.trans k15 (fun _ q => q.elim)
                                clear k15
                                clear h54
                                generalize w14.drewN nq = w15 at *
                                go_wp2
                                go_roundg (M - (i + 1))
                                case measure => omega
                                case rel => exact ⟨i + 1, p, q, by omega, rfl, rfl, by go_num, rfl, HFk.out _ HK15.out⟩
                            -- END R
                        · rw [hk] at e0
                          have HF : Hid (∃ gn, gn ≤ i + 1 ∧ SX (SSd Z b32 b33) w11 Z (Z + 2) TA TC OV OC NK M (i + 1) gn w13) := ⟨gn, by omega, _, _, _, _, _, _, _, HSW.out, HOK.out, fun x hx => by have := HLB.out x hx; omega⟩
                          clear HSW HOK HLB HB3
                          go_wp2
                          go_roundg (M - (i + 1))
                          case measure => omega
                          case rel => exact ⟨i + 1, p, q, by omega, rfl, rfl, by go_num, rfl, HF⟩
                      · obtain rfl : M = i := by omega
                        have q7 : ¬ (M : Int) < (M : Int) := by omega
                        have HF : Hid (Keep (fun b => ¬ SSd Z b32 b33 b) w11 w12) := by
                          obtain ⟨_, _, _, _, _, _, _, _, _, hsw, _⟩ := HR.out
                          exact hsw.k
                        clear HR
                        go_wp2
                        obtain ⟨h1, h2, h3⟩ := HEnd.out _ HF.out
                        refine leaves_marks (B := C + 4) ds _ h1 (fun W' k => ?_)
                        exact ⟨_, results_tmp2 rfl _ _ _, ⟨p, q, rfl⟩, h2.trans k (fun b q => .inr (by omega))⟩
end Go.Proofs.YbulkdvbsGreat

/-
  LawS6090CWhole, walked.
-/
import Derived.Test.YbulkdvcgDone
import Derived.Deep.CutBlock
namespace Go.Proofs.Ybulkdvcg
open Go.RowKit
attribute [local go_sem ↓] exec_make35 exec_make86 exec_make37 exec_make85

/-- The places where the groups begin. -/
def fst (P0 : Nat) (sv : Nat → Nat) : Nat → Nat
  | 0 => P0
  | j + 1 => fst P0 sv j + sv j % 300
theorem fst_le (P0 : Nat) (sv : Nat → Nat) (h : P0 ≤ 15) : ∀ j, fst P0 sv j ≤ 15 + 299 * j
  | 0 => by simpa [fst] using h
  | j + 1 => by have := fst_le P0 sv h j; unfold fst; omega
theorem fst_mono (P0 : Nat) (sv : Nat → Nat) : ∀ k j, j ≤ k → fst P0 sv j ≤ fst P0 sv k
  | 0, j, h => by have : j = 0 := by omega
                  subst this; exact Nat.le_refl _
  | k + 1, j, h => by
    by_cases e : j = k + 1
    · subst e; exact Nat.le_refl _
    · have := fst_mono P0 sv k j (by omega)
      show _ ≤ fst P0 sv k + sv k % 300
      omega

set_option maxHeartbeats 4000000 in
set_option maxRecDepth 100000 in
theorem law_any (a0 : Option Addr) (m c0 b0 o0 : Nat) (sv : Nat → Nat) (of tl : Nat) (a3 : Option Addr) (cl c3 b3 o3 : Nat) (f0 : Nat → Int) (a4 : Option Addr) (cd c4 b4 o4 : Nat) (g0 : Nat → Bool) (a5 : Option Addr) (ca c5 b5 o5 : Nat) (h0 : Nat → Bool) (p : Int) (w : World)
    (hm : m ≤ 4096) (hcl : cl ≤ 2097152) (hcd : cd ≤ 2097152) (hca : ca ≤ 2097152) (hof : of ≤ 255) (htl : tl ≤ 255)
    (ha0 : 0 < m → a0 = some ⟨b0, o0, none⟩) (hs0 : ∀ j, j < m → w.cell? ⟨b0, o0 + j, none⟩ = some (.int .u16 (sv j : Int))) (hsv : ∀ j, sv j ≤ 65535)
    (ha3 : 0 < cl → a3 = some ⟨b3, o3, none⟩) (hs3 : ∀ j, j < cl → w.cell? ⟨b3, o3 + j, none⟩ = some (.int .i32 (f0 j)))
    (ha4 : 0 < cd → a4 = some ⟨b4, o4, none⟩) (hs4 : ∀ j, j < cd → w.cell? ⟨b4, o4 + j, none⟩ = some (.bool (g0 j)))
    (ha5 : 0 < ca → a5 = some ⟨b5, o5, none⟩) (hs5 : ∀ j, j < ca → w.cell? ⟨b5, o5 + j, none⟩ = some (.bool (h0 j))) :
    Calls Yba.prog 4 #[.slice a0 m c0, .int .u8 (of : Int), .int .u8 (tl : Int), .slice a3 cl c3, .slice a4 cd c4, .slice a5 ca c5, .int .i64 p] w fun e w' => e = .returned (.bool true) ∧ Below w.heap.size w w' := by
  have m1 : ¬ (4096 : Int) < (m : Int) := by omega
  have m2 : ¬ (2097152 : Int) < (cl : Int) := by omega
  have m3 : ¬ (2097152 : Int) < (cd : Int) := by omega
  have m4 : ¬ (2097152 : Int) < (ca : Int) := by omega
  have m5 : (of : Int) ≤ 255 := by omega
  have m6 : (tl : Int) ≤ 255 := by omega
  obtain ⟨P0, HP0⟩ : ∃ P0, Hid (P0 = of % 16) := ⟨_, rfl⟩
  have p1 : (of : Int).tmod 16 = (P0 : Int) := by rw [Int.tmod_eq_emod_of_nonneg (by omega), HP0.out]; simp
  have p2 : P0 ≤ 15 := by have := HP0.out; omega
  have p3 : (P0 : Int) ≤ 15 := by omega
  obtain ⟨i3, hi, hz, hs, hb⟩ := inf3
  obtain ⟨w1, hr1, own1, gr1⟩ := run_make_own (P := Yba.prog) w w.heap.size 35 3 i3 _ 1 Yba.underlying35 hi hz hs .i64 .i64 (m + 1) (by rw [hb]; omega) (by unfold maxLen; omega) (Nat.le_refl _)
  rw [Int.natCast_add] at hr1
  have hmk : (opMk 35 (.int .i64 0) (.int .i64 ((m : Int) + 1))).run Yba.prog w = .ok (.value (.slice (some ⟨w.heap.size, 0, none⟩) 0 (m + 1))) w1 := by
    unfold opMk; rw [Sem.run_bind]
    have e : ((m : Int) + 1) = (m : Int) + ((1 : Nat) : Int) := rfl
    rw [e, hr1]; simp
  have B1 : Below w.heap.size w w1 := (Below.refl _ _).grown gr1 (Nat.le_refl _) (fun k h => by cases h)
  clear hr1 gr1
  generalize hW0 : w.heap.size = W0 at *
  have hb0 : 0 < m → b0 < W0 := fun h => by have := World.block_lt_of_cell? w _ (hs0 0 h); simp at this; omega
  go_enter Yba.func4, Yba.ntmps4
  go_wp2_with (at_builtin; (refine wpList_append_lies (w1.alloc (Obj.cells #[Value.int .i64 (P0 : Int)] 3)) rfl _ _ 35 rfl W0 3 i3 _ 1 8 Yba.underlying35 hi hz hs hb rfl (by omega) _ 0 [] rfl (own1.alloc _) ⟨w1.heap.size, 0, none⟩ 1 1 [.int .i64 (P0 : Int)] rfl rfl (World.news_of_block (cs := #[Value.int .i64 (P0 : Int)]) (heap_alloc_new w1 _)) (by intro y hy; simp at hy; subst hy; rfl) (by omega) (by unfold maxLen; omega) (by omega) (by have := B1.size; simp; omega) (w1.heap.size + 1) (by simp) ?_))
  intro g cap w2 hown2 hgrow2 _ _
  have B2 : Below W0 w w2 := (B1.alloc (by have := B1.size; omega) _).grown hgrow2 (by have := B1.size; simp; omega) (fun k h => by simp [Value.ownBlock] at h; omega)
  have hown3 : w2.ownsRow W0 3 1 (.slice (some ⟨g, 0, none⟩) 1 cap) 1 (rowI 1 (fst P0 sv)) := hown2
  clear hgrow2 hown2 own1 B1 hmk
  go_wp2
  go_loopw [15, 16, 63] (fun s15 s16 i wr => ∃ (k g cap : Nat), k ≤ m ∧ i = .int .i64 k ∧ s16 = .int .i64 (fst P0 sv k : Int) ∧ s15 = .slice (some ⟨g, 0, none⟩) (k + 1) cap ∧ Hid (wr.ownsRow W0 3 1 (.slice (some ⟨g, 0, none⟩) (k + 1) cap) (k + 1) (rowI (k + 1) (fst P0 sv))) ∧ Hid (Below W0 w wr)) (fun _ _ i _ => m - (intOf i).toNat)
  case atStart => exact ⟨0, g, cap, Nat.zero_le _, rfl, rfl, rfl, hown3, B2⟩
  case round =>
    obtain ⟨k, g, cap, hk, rfl, rfl, rfl, HO, HB⟩ := hrel
    clear hown3 B2
    by_cases hlt : k < m
    · obtain rfl := ha0 (by omega)
      have e0 : wr.cell? ⟨b0, o0 + k, none⟩ = some (.int .u16 (sv k : Int)) := by rw [HB.out.cell (p := ⟨b0, o0 + k, none⟩) (hb0 (by omega))]; exact hs0 k hlt
      have k1 : (k : Int) < (m : Int) := by omega
      have q1 := hsv k
      have q2 : (sv k : Int) ≤ 65535 := by omega
      have q3 : (sv k : Int).tmod 300 = ((sv k % 300 : Nat) : Int) := by rw [Int.tmod_eq_emod_of_nonneg (by omega)]; simp
      have HF : Hid (fst P0 sv (k + 1) = fst P0 sv k + sv k % 300) := rfl
      have hle := fst_le P0 sv p2 (k + 1)
      obtain ⟨X, HX⟩ : ∃ X : Nat, Hid (X = fst P0 sv (k + 1)) := ⟨_, rfl⟩
      obtain ⟨Y, HY⟩ : ∃ Y : Nat, Hid (Y = fst P0 sv k) := ⟨_, rfl⟩
      obtain ⟨R, HR⟩ : ∃ R : Nat, Hid (R = sv k % 300) := ⟨_, rfl⟩
      rw [← HY.out, ← HR.out] at HF
      rw [← HX.out] at HF hle
      rw [← HR.out] at q3
      rw [← HY.out]
      have q4 : (Y : Int) + (R : Int) = (X : Int) := by have := HF.out; omega
      have q5 : (Y : Int) ≤ 10000000 ∧ (R : Int) ≤ 300 ∧ (X : Int) ≤ 10000000 := by have := HF.out; have := HR.out; omega
      obtain ⟨q5, q6, q7⟩ := q5
      clear hle q1
      have hbase : W0 ≤ wr.heap.size := by have := HB.out.size; omega
      go_wp2_with (at_builtin; (refine wpList_append_lies (wr.alloc (Obj.cells #[Value.int .i64 (X : Int)] 3)) rfl _ _ 35 rfl W0 3 i3 _ 1 8 Yba.underlying35 hi hz hs hb rfl (by omega) _ (k + 1) (rowI (k + 1) (fst P0 sv)) rfl (HO.out.alloc _) ⟨wr.heap.size, 0, none⟩ 1 1 [.int .i64 (X : Int)] rfl rfl (World.news_of_block (cs := #[Value.int .i64 (X : Int)]) (heap_alloc_new wr _)) (by intro y hy; simp at hy; subst hy; rfl) (by omega) (by unfold maxLen; omega) (by omega) (by simp; omega) (wr.heap.size + 1) (by simp) ?_))
      intro g' cap' w2 hown2 hgrow2 _ _
      have B2 : Hid (Below W0 w w2) := (HB.out.alloc hbase _).grown hgrow2 (by simp; omega) (fun j hj => by have := HO.out.lt j hj; omega)
      have hown3 : Hid (w2.ownsRow W0 3 1 (.slice (some ⟨g', 0, none⟩) (k + 1 + 1) cap') (k + 1 + 1) (rowI (k + 1 + 1) (fst P0 sv))) := by
        show World.ownsRow _ _ _ _ _ _ _
        rw [rowI_succ, ← HX.out]; exact hown2
      clear hgrow2 hown2
      go_wp2
      go_roundw
      case rel => exact ⟨k + 1, g', cap', by omega, by go_num, by rw [← HX.out], rfl, hown3, B2⟩
      case measure => simp [intOf]; omega
    · have e : k = m := by omega
      subst e
      obtain ⟨Tl, HTl⟩ : ∃ Tl, Hid (Tl = tl % 16) := ⟨_, rfl⟩
      have t1 : (tl : Int).tmod 16 = (Tl : Int) := by rw [Int.tmod_eq_emod_of_nonneg (by omega), HTl.out]; simp
      have hle := fst_le P0 sv p2 k
      obtain ⟨fs, Hfs⟩ : ∃ fs : Nat → Nat, Hid (fs = fst P0 sv) := ⟨_, rfl⟩
      have hmono : ∀ i, i ≤ k → fs i ≤ fs k := fun i hi => by rw [Hfs.out]; exact fst_mono P0 sv k i hi
      rw [← Hfs.out] at HO hle
      rw [← Hfs.out]
      obtain ⟨n, Hn⟩ : ∃ n, Hid (n = fs k + Tl) := ⟨_, rfl⟩
      have hAll : (fs k : Int) + (Tl : Int) = (n : Int) ∧ (n : Int) ≤ 2000000 ∧ n ≤ 2000000 ∧ (fs k : Int) ≤ 2000000 ∧ (Tl : Int) ≤ 15 ∧ fs k ≤ n := by
        have := Hn.out; have := HTl.out; omega
      obtain ⟨t2, t3, t4, t5, t6, t7⟩ := hAll
      have hfn : ∀ i, i ≤ k → fs i ≤ n := fun i hi => Nat.le_trans (hmono i hi) t7
      have hrow : ∀ i, i ≤ k → wr.cell? ⟨g, i, none⟩ = some (.int .i64 (fs i : Int)) := fun i hi => row_cell HO.out i _ (rowI_at (k + 1) fs i (by omega))
      obtain ⟨hgW, hgl⟩ := HO.out.lt g rfl
      obtain ⟨w2, hmk2, hN2, kN2, sN2⟩ := mk86 wr n (by omega)
      have HBN : Hid (W0 ≤ wr.heap.size) := by have := HB.out.size; show W0 ≤ _; omega
      generalize hNN : wr.heap.size = N at hmk2 hN2 sN2 hgl HBN
      have HB2 : Hid (Below W0 w w2) := HB.out.trans (kN2.below (fun _ h => h.elim) (by rw [hNN]; exact HBN.out))
      have hrow2 : ∀ i, i ≤ k → w2.cell? ⟨g, i, none⟩ = some (.int .i64 (fs i : Int)) := fun i hi => (kN2.cell ⟨g, i, none⟩ (by show g < _; omega) (fun h => h)).trans (hrow i hi)
      clear hsv hs0 ha0 hb0 HO hle hmono hrow HB kN2 hNN
      go_wp2
      clear hmk2
      go_loopw [86] (fun i w3 => ∃ j : Nat, j ≤ n ∧ i = .int .i64 j ∧ Hid (Nodes w3 N n j) ∧ Hid (Keep (fun b => b = N) w2 w3)) (fun i _ => n - (intOf i).toNat)
      case atStart => exact ⟨0, Nat.zero_le _, rfl, hN2, Keep.refl _ _⟩
      case round =>
        obtain ⟨j, hj, rfl, HN, HK⟩ := hrel
        by_cases hjl : j < n
        · have d0 : wr.cell? ⟨N, j * 6, none⟩ = some _ := HN.out.cell j 0 hjl (by omega)
          have d5 : wr.cell? ⟨N, j * 6 + 5, none⟩ = some _ := HN.out.cell j 5 hjl (by omega)
          have z0 := HN.out.free (j * 6)
          have z5 := HN.out.free (j * 6 + 5)
          have j1 : (j : Int) < (n : Int) := by omega
          have jn : (j : Int).toNat = j := by omega
          have HN3 : Hid _ := HN.out.step hjl
          have HK3 : Hid (Keep (fun b => b = N) w2 ((wr.setCell ⟨N, j * 6, none⟩ (.int .i64 (j : Int))).setCell ⟨N, j * 6 + 5, none⟩ (.int .i64 (2 * (j : Int))))) := (HK.out.trans (Keep.setCell wr ⟨N, j * 6, none⟩ _) (fun _ h => .inl h)).trans (Keep.setCell _ ⟨N, j * 6 + 5, none⟩ _) (fun _ h => .inl h)
          clear hrow2 hN2
          go_wp2
          go_roundw
          case rel => exact ⟨j + 1, by omega, by go_num, HN3, HK3⟩
          case measure => simp [intOf]; omega
        · have e : j = n := by omega
          subst e
          have HL : Hid (Below W0 w wr) := HB2.out.trans (HK.out.below (fun _ h => by have := HBN.out; omega) (by have := HBN.out; omega))
          have hNl : N < wr.heap.size := by have := HK.out.size; omega
          obtain ⟨w3, w4, w5, w6, w7, w8, L0, D0, A0, r3, r4, r5, r6, r7, r8, HP⟩ := prep w wr W0 g k j N cl cd ca fs f0 g0 h0 a3 a4 a5 b3 o3 c3 b4 o4 c4 b5 o5 c5 hW0 hcl hcd hca HL.out hgW hgl hNl
            (fun i hi => (HK.out.cell ⟨g, i, none⟩ (by show g < _; omega) (by show ¬ g = N; omega)).trans (hrow2 i hi)) HN.out ha3 hs3 ha4 hs4 ha5 hs5
          have HC := fun _ : Unit => clone_any g (k + 1) cap fs w8 (by omega) (fun i hi => HP.row i (by omega))
          clear hrow2 hN2 HN HK HL
          have hk5 : k ≤ 100000 := by omega
          go_wp2_with (first
            | (go_at_call 9; refine (HC ()).mono ?_; rintro e w9 ⟨v9, rfl, ho9, hb9⟩; obtain ⟨C, cc, rfl, HD0⟩ := drop_call w w8 w9 W0 g cap k j N L0 D0 A0 cl cd ca p fs f0 g0 h0 v9 HP t4 hk5 hcd hcl hfn ho9 hb9; have HD := fun _ : Unit => HD0; clear HD0 HC ho9 hb9)
            | (go_at_call 10; refine (HD ()).mono ?_; rintro e wd ⟨rfl, D', L', G1, G2, HE⟩; obtain ⟨w12, r12, R12, k12, s12⟩ := mk37 wd j (Nat.le_trans t4 (by omega)); obtain ⟨w13, r13, R13, k13, s13⟩ := mk85 w12 j (Nat.le_trans t4 (by omega)); clear HD))
          clear HP r3 r4 r5 r6 r7 r8 r12 r13
          generalize hT : w9.heap.size = T at *
          generalize hW : wd.heap.size = W at *
          rw [s12] at R13 s13
          generalize hS : W + 1 = S at *
          have HE13 : Hid (Done w W0 T g cap C k j N D' L' A0 G1 G2 cl ca p fs f0 h0 w13) := (HE.keep k12.any).keep k13.any
          have kd : Hid (Keep (fun b => wd.heap.size ≤ b) wd w13) := k12.any.trans k13 (fun _ h => h.elim)
          have HR12 : Hid (Row32 w13 W j (fun _ => 0)) := k13.row32 R12 (by omega) (fun h => h)
          have hC13 : C < W ∧ C < w13.heap.size := by have h1 := HE.lt; have h2 := HE13.out.lt; rw [hW] at h1; exact ⟨h1.2.2.1, h2.2.2.1⟩
          have hb3 : 0 < cl → b3 < W0 := fun h => by have := World.block_lt_of_cell? w _ (hs3 0 h); rw [hW0] at this; exact this
          have hb5 : 0 < ca → b5 < W0 := fun h => by have := World.block_lt_of_cell? w _ (hs5 0 h); rw [hW0] at this; exact this
          have hWS : W ≠ S := by omega
          have hCn : ¬ (C = W ∨ C = S) := by omega
          have hW13 : W < w13.heap.size ∧ S < w13.heap.size := by omega
          have hWd : ∀ i, (i = W ∨ i = S) → wd.heap.size ≤ i := fun i h => by omega
          clear R12 k12 k13 s12 s13 hS hW hT
          go_loopw [29] (fun i wr => ∃ q : Nat, q ≤ k ∧ i = .int .i64 q ∧ Hid (Row32 wr W j (lay (fun _ => 0) (am fs q))) ∧ Hid (RowB wr S j (seen (fun _ => false) (am fs q))) ∧ Hid (Keep (fun b => b = W ∨ b = S) w13 wr)) (fun i _ => k - (intOf i).toNat)
          case atStart => exact ⟨0, Nat.zero_le _, rfl, HR12, R13, Keep.refl _ _⟩
          case round =>
            obtain ⟨q, hq, rfl, HRW, HRS, HKW⟩ := hrel
            by_cases hlt : q < k
            · have x1 : wr.cell? ⟨C, q, none⟩ = some (.int .i64 (fs q : Int)) := (HKW.out.cell ⟨C, q, none⟩ hC13.2 hCn).trans (HE13.out.copy q hq)
              have x2 : wr.cell? ⟨C, q + 1, none⟩ = some (.int .i64 (fs (q + 1) : Int)) := (HKW.out.cell ⟨C, q + 1, none⟩ hC13.2 hCn).trans (HE13.out.copy (q + 1) hlt)
              have k1 : (q : Int) < (k : Int) := by omega
              have k2 : (q : Int) < (k : Int) + 1 := by omega
              have k3 : (0 : Int) ≤ (q : Int) + 1 := by omega
              have k4 : ((q : Int) + 1).toNat = q + 1 := by omega
              have kw : IntKind.i64.wrap ((q : Int) + 1) = (q : Int) + 1 := by rw [IntKind.wrap_i64]; omega
              have HPm : Hid (∀ v : World, Keep (fun _ => False) wr v → Calls Yba.prog 11 #[.slice (some ⟨W, 0, none⟩) j j, .slice (some ⟨S, 0, none⟩) j j, .int .i64 (fs q : Int), .int .i64 (fs (q + 1) : Int)] v fun e w6 => e = .returned (.tuple #[]) ∧ w6.cell? ⟨C, q, none⟩ = some (.int .i64 (fs q : Int)) ∧ w6.cell? ⟨C, q + 1, none⟩ = some (.int .i64 (fs (q + 1) : Int)) ∧
                  Hid (Row32 w6 W j (lay (fun _ => 0) (am fs (q + 1)))) ∧ Hid (RowB w6 S j (seen (fun _ => false) (am fs (q + 1)))) ∧ Hid (Keep (fun b => b = W ∨ b = S) w13 w6)) := by
                intro v kv
                have hs1 := HKW.out.size
                have hs2 := kv.size
                have rv := kv.row32 HRW.out (by omega) (fun h => h)
                have rs := kv.rowB HRS.out (by omega) (fun h => h)
                have hin : ∀ p ∈ mks (fs q) (fs (q + 1)), p.1 < j := fun p hp => by
                  have := (mks_in _ _ _ (Nat.le_refl _) p hp).2.1
                  have := hfn (q + 1) hlt
                  omega
                refine (mark_any W S j j j hWS t4 _ (fs q) (fs (q + 1)) v _ _ (Nat.le_refl _) (hfn _ hlt) (Nat.le_succ_of_le (hfn _ hq)) rv rs).mono ?_
                rintro e w6 ⟨rfl, rfl⟩
                have kk : Keep (fun b => b = W ∨ b = S) wr (setM W S (mks (fs q) (fs (q + 1))) v) := ((Keep.refl _ wr).trans kv (fun _ h => h.elim)).trans (Keep.setM W S (mks (fs q) (fs (q + 1))) v) (fun _ h => .inl h)
                obtain ⟨m1, m2⟩ := setM_rows W S j hWS (mks (fs q) (fs (q + 1))) v _ _ rv rs hin
                have e1 : lay (lay (fun _ => 0) (am fs q)) (mks (fs q) (fs (q + 1))) = lay (fun _ => 0) (am fs (q + 1)) := by funext i; rw [am, lay_append]
                have e2 : seen (seen (fun _ => false) (am fs q)) (mks (fs q) (fs (q + 1))) = seen (fun _ => false) (am fs (q + 1)) := by funext i; rw [am, seen_append]
                rw [e1] at m1; rw [e2] at m2
                exact ⟨rfl, (kk.cell ⟨C, q, none⟩ (by show C < _; omega) hCn).trans x1, (kk.cell ⟨C, q + 1, none⟩ (by show C < _; omega) hCn).trans x2, m1, m2, HKW.out.trans kk (fun _ h => .inl h)⟩
              clear HRW HRS HKW HE13 HE kd R13 HR12
              go_wp2
              go_region_held3 (fun w' => w'.cell? ⟨C, q, none⟩ = some (.int .i64 (fs q : Int)) ∧ w'.cell? ⟨C, q + 1, none⟩ = some (.int .i64 (fs (q + 1) : Int))) (first | exact ⟨x1, x2⟩ | exact ⟨f6, g6⟩ | go_keep) (first | (go_at_call 11; refine (HPm.out _ ?_).mono ?_; (exact ⟨rfl, rfl, rfl, Nat.le_refl _, fun _ _ _ => rfl⟩); rintro e w6 ⟨rfl, f6, g6, HR6, HS6, HK6⟩))
              go_wp2
              go_roundw
              case rel => exact ⟨q + 1, by omega, by go_num, HR6, HS6, HK6⟩
              case measure => simp [intOf]; omega
            · have e : q = k := by omega
              subst e
              obtain ⟨wE, hwE⟩ : ∃ x, x = wr := ⟨_, rfl⟩
              subst hwE
              have HD : Hid (Done w W0 T g cap C q j N D' L' A0 G1 G2 cl ca p fs f0 h0 wE) := HE.keep (kd.out.trans HKW.out (fun i h => .inl (hWd i h)))
              have y0 : wE.cell? ⟨T, 0, none⟩ = some (.slice (some ⟨N, 0, none⟩) j j) := HD.out.tree 0 _ rfl
              have y1 : wE.cell? ⟨T, 1, none⟩ = some (.slice none 0 0) := HD.out.tree 1 _ rfl
              have y2 : wE.cell? ⟨T, 2, none⟩ = some (.slice (some ⟨g, 0, none⟩) (q + 1) cap) := HD.out.tree 2 _ rfl
              have y3 : wE.cell? ⟨T, 3, none⟩ = some (.int .i64 p) := HD.out.tree 3 _ rfl
              have y4 : wE.cell? ⟨T, 4, none⟩ = some (.slice (some ⟨D', 0, none⟩) j G1) := HD.out.tree 4 _ rfl
              have y5 : wE.cell? ⟨T, 5, none⟩ = some (.slice (some ⟨L', 0, none⟩) j G2) := HD.out.tree 5 _ rfl
              have y6 : wE.cell? ⟨T, 6, none⟩ = some (.slice (some ⟨A0, 0, none⟩) ca ca) := HD.out.tree 6 _ rfl
              have HVal : Hid (∀ i, i < j → ∃ (sb : Bool) (X V : Int), wE.cell? ⟨S, i, none⟩ = some (.bool sb) ∧ wE.cell? ⟨W, i, none⟩ = some (.int .i32 X) ∧ wE.cell? ⟨L', i, none⟩ = some (.int .i32 V) ∧ Hid (V = if sb = true then X else if i < cl then f0 i else 0)) := fun i hi => ⟨_, _, _, HRS.out.cell i hi, HRW.out.cell i hi, HD.out.live.cell i hi, live_value cl f0 (am fs q) i⟩
              have Hs3 : Hid (∀ i, i < cl → wE.cell? ⟨b3, o3 + i, none⟩ = some (.int .i32 (f0 i))) := fun i hi => by rw [HD.out.below.cell (p := ⟨b3, o3 + i, none⟩) (hb3 (by omega))]; exact hs3 i hi
              have Hs5 : Hid (∀ i, i < ca → wE.cell? ⟨b5, o5 + i, none⟩ = some (.bool (h0 i))) := fun i hi => by rw [HD.out.below.cell (p := ⟨b5, o5 + i, none⟩) (hb5 (by omega))]; exact hs5 i hi
              clear HRW HRS HKW HE13 HE kd R13 HR12 hs3 hs4 hs5 hWd
              go_wp2
              go_loopw [30] (fun i w' => ∃ t : Nat, t ≤ j ∧ i = .int .i64 t ∧ wE = w') (fun i _ => j - (intOf i).toNat)
              case atStart => exact ⟨0, Nat.zero_le _, rfl, rfl⟩
              case round =>
                obtain ⟨t, ht, rfl, rfl⟩ := hrel
                by_cases htl2 : t < j
                · obtain ⟨sb, X, V, v1, v2, v3, HV⟩ := HVal.out t htl2
                  have v4 : wE.cell? ⟨D', t, none⟩ = some (.bool false) := HD.out.dead.cell t htl2
                  have n0 : wE.cell? ⟨N, t * 6, none⟩ = some (.int .i64 (t : Int)) := by have := HD.out.nodes.cell t 0 htl2 (by omega); simpa [nv, htl2] using this
                  have n1 : wE.cell? ⟨N, t * 6 + 1, none⟩ = some (.int .i64 0) := by have := HD.out.nodes.cell t 1 htl2 (by omega); simpa [nv, htl2] using this
                  have n2 : wE.cell? ⟨N, t * 6 + 2, none⟩ = some (.int .i64 0) := by have := HD.out.nodes.cell t 2 htl2 (by omega); simpa [nv, htl2] using this
                  have n3 : wE.cell? ⟨N, t * 6 + 3, none⟩ = some (.int .i64 0) := by have := HD.out.nodes.cell t 3 htl2 (by omega); simpa [nv, htl2] using this
                  have n4 : wE.cell? ⟨N, t * 6 + 4, none⟩ = some (.int .i64 0) := by have := HD.out.nodes.cell t 4 htl2 (by omega); simpa [nv, htl2] using this
                  have n5 : wE.cell? ⟨N, t * 6 + 5, none⟩ = some (.int .i64 (2 * (t : Int))) := by have := HD.out.nodes.cell t 5 htl2 (by omega); simpa [nv, htl2] using this
                  have l1 : (t : Int) < (j : Int) := by omega
                  have l2 : (t : Int).toNat = t := by omega
                  cases sb with
                  | true =>
                    have HV2 : V = X := HV.out
                    subst HV2
                    go_wp2
                    go_roundw
                    case rel => exact ⟨t + 1, by omega, by go_num, trivial⟩
                    case measure => simp [intOf]; omega
                  | false =>
                    by_cases hc : t < cl
                    · have HV2 : V = f0 t := by have := HV.out; simpa [hc] using this
                      subst HV2
                      obtain rfl := ha3 (by omega)
                      have l3 : (t : Int) < (cl : Int) := by omega
                      have v5 := Hs3.out t hc
                      go_wp2
                      go_roundw
                      case rel => exact ⟨t + 1, by omega, by go_num, trivial⟩
                      case measure => simp [intOf]; omega
                    · have HV2 : V = 0 := by have := HV.out; simpa [hc] using this
                      subst HV2
                      have l3 : ¬ (t : Int) < (cl : Int) := by omega
                      go_wp2
                      go_roundw
                      case rel => exact ⟨t + 1, by omega, by go_num, trivial⟩
                      case measure => simp [intOf]; omega
                · have e : t = j := by omega
                  subst e
                  have HQ1 := fun _ : Unit => equal_int (some ⟨g, 0, none⟩) (some ⟨C, 0, none⟩) (q + 1) cap cc (fun i => (fs i : Int)) wE (by omega) (fun _ => ⟨g, rfl, fun i hi => HD.out.row i (by omega)⟩) (fun _ => ⟨C, rfl, fun i hi => HD.out.copy i (by omega)⟩)
                  have HQ2 : ∀ z, _ := fun z => equal_bool A0 a5 ca ca c5 b5 o5 h0 (wE.drewN z) hca (fun i hi => by simpa using HD.out.lone.cell i hi) ha5 (fun i hi => by simpa using Hs5.out i hi)
                  go_wp2_with (first
                    | (go_at_call 12; refine (HQ1 ()).mono ?_; rintro e wq ⟨rfl, z, rfl⟩)
                    | (go_at_call 13; refine (HQ2 z).mono ?_; rintro e wq ⟨rfl, z2, rfl⟩))
                  go_ret
                  have hB := HD.out.below
                  exact ⟨rfl, hB.os, hB.tape, hB.output, hB.size, hB.block⟩

end Go.Proofs.Ybulkdvcg

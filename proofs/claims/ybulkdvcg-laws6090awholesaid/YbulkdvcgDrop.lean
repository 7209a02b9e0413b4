/-
  dropping, walked.
-/
import Derived.Test.YbulkdvcgGrow
import Derived.Deep.QuietTactic
import Derived.BigQuiet
import Derived.Deep.RegionHeld3
namespace Go.Proofs.Ybulkdvcg
open Go.RowKit

/-- From w to w' only blocks of F have turned, and new ones. -/
structure Keep (F : Nat → Prop) (w w' : World) : Prop where
  os : w'.os = w.os
  tape : w'.tape = w.tape
  output : w'.output = w.output
  size : w.heap.size ≤ w'.heap.size
  block : ∀ k, k < w.heap.size → ¬ F k → w'.heap[k]? = w.heap[k]?
theorem Keep.refl (F : Nat → Prop) (w : World) : Keep F w w := ⟨rfl, rfl, rfl, Nat.le_refl _, fun _ _ _ => rfl⟩
theorem Keep.trans {F F' : Nat → Prop} {a b c : World} (h : Keep F a b) (k : Keep F' b c) (hF : ∀ i, F' i → F i ∨ a.heap.size ≤ i) : Keep F a c :=
  ⟨k.os.trans h.os, k.tape.trans h.tape, k.output.trans h.output, Nat.le_trans h.size k.size,
   fun i hi hn => (k.block i (Nat.lt_of_lt_of_le hi h.size) (fun hi' => by rcases hF i hi' with h1 | h1; exact hn h1; omega)).trans (h.block i hi hn)⟩
theorem Keep.setCell (w : World) (p : Addr) (u : Value) : Keep (fun k => k = p.block) w (w.setCell p u) :=
  ⟨rfl, rfl, rfl, by simp [World.setCell], fun k _ hF => Below.heap_setCell _ _ _ _ hF⟩
theorem Keep.setW (L : Nat) : ∀ (ms : List (Nat × Nat)) (w : World), Keep (fun k => k = L) w (setW L ms w)
  | [], w => Keep.refl _ w
  | _ :: ms, w => (Keep.setCell w ⟨L, _, none⟩ _).trans (Keep.setW L ms _) (fun _ h => .inl h)
theorem Keep.setM (W S : Nat) : ∀ (ms : List (Nat × Nat)) (w : World), Keep (fun k => k = W ∨ k = S) w (setM W S ms w)
  | [], w => Keep.refl _ w
  | p :: ms, w => ((((Keep.refl (fun k => k = W ∨ k = S) w).trans (Keep.setCell w ⟨W, p.1, none⟩ (.int .i32 (p.2 : Int))) (fun _ h => .inl (.inl h)))).trans (Keep.setCell _ ⟨S, p.1, none⟩ (.bool true)) (fun _ h => .inl (.inr h))).trans (Keep.setM W S ms _) (fun _ h => .inl h)
theorem Keep.setCells (b : Nat) : ∀ (vs : List Value) (o : Nat) (w : World), Keep (fun k => k = b) w (w.setCells b o vs)
  | [], _, w => Keep.refl _ w
  | v :: vs, o, w => (Keep.setCell w ⟨b, o, none⟩ v).trans (Keep.setCells b vs (o + 1) _) (fun _ h => .inl h)
theorem Keep.alloc (F : Nat → Prop) (w : World) (o : Obj) : Keep F w (w.alloc o) := ⟨rfl, rfl, rfl, by simp, fun k hk _ => Below.heap_alloc _ _ _ hk⟩
theorem Keep.drew {F : Nat → Prop} {a w : World} (h : Keep F a w) : Keep F a w.drew := ⟨h.os, h.tape, h.output, h.size, h.block⟩
theorem Keep.drewN {F : Nat → Prop} {a w : World} (h : Keep F a w) (q : Nat) : Keep F a (w.drewN q) := ⟨h.os, h.tape, h.output, h.size, h.block⟩
theorem Keep.below {F : Nat → Prop} {a w : World} {B : Nat} (h : Keep F a w) (hF : ∀ k, F k → B ≤ k) (hB : B ≤ a.heap.size) : Below B a w :=
  ⟨h.os, h.tape, h.output, h.size, fun k hk => h.block k (by omega) (fun hk' => by have := hF k hk'; omega)⟩
theorem Grew.keep {w w' : World} {b L : Nat} (h : Grew w w' b L) : Keep (fun _ => False) w w' := by
  rcases h with ⟨_, rfl⟩ | ⟨_, o, rfl⟩
  · exact Keep.refl _ _
  · exact (Keep.alloc _ w o).drew
theorem Grew.place {w w' : World} {b L : Nat} (h : Grew w w' b L) : L = b ∨ (L = w.heap.size ∧ w.heap.size < w'.heap.size) := by
  rcases h with ⟨h, _⟩ | ⟨h, o, rfl⟩
  · exact .inl h
  · exact .inr ⟨h, by simp⟩
theorem Keep.cell {F : Nat → Prop} {w w' : World} (h : Keep F w w') (a : Addr) (hk : a.block < w.heap.size) (hF : ¬ F a.block) : w'.cell? a = w.cell? a := World.cell?_of_block (h.block _ hk hF)
theorem Keep.free {F : Nat → Prop} {w w' : World} (h : Keep F w w') (a : Addr) (hk : a.block < w.heap.size) (hF : ¬ F a.block) : w'.frozen? a = w.frozen? a := World.frozen?_of_block (h.block _ hk hF)
theorem Keep.row32 {F : Nat → Prop} {w w' : World} (h : Keep F w w') {L n : Nat} {f : Nat → Int} (hr : Row32 w L n f) (hk : L < w.heap.size) (hF : ¬ F L) : Row32 w' L n f := hr.keep (h.block _ hk hF)
theorem Keep.rowB {F : Nat → Prop} {w w' : World} (h : Keep F w w') {L n : Nat} {f : Nat → Bool} (hr : RowB w L n f) (hk : L < w.heap.size) (hF : ¬ F L) : RowB w' L n f := hr.keep (h.block _ hk hF)

/-- All the marks of the groups below g. -/
def am (fs : Nat → Nat) : Nat → List (Nat × Nat)
  | 0 => []
  | g + 1 => am fs g ++ mks (fs g) (fs (g + 1))
theorem am_in (fs : Nat → Nat) (n : Nat) : ∀ m, (∀ i, i ≤ m → fs i ≤ n) → ∀ p ∈ am fs m, p.1 < n
  | 0, _, p, hp => by cases hp
  | m + 1, h, p, hp => by
    rcases List.mem_append.1 hp with hp | hp
    · exact am_in fs n m (fun i hi => h i (by omega)) p hp
    · have := (mks_in _ _ _ (Nat.le_refl _) p hp).2.1
      have := h (m + 1) (Nat.le_refl _)
      omega

theorem clear_run (w : World) (D n G : Nat) (g : Nat → Bool) (hr : RowB w D n g) : ∃ w', (∀ ty, (Builtin.clear_ #[85] ty #[.slice (some ⟨D, 0, none⟩) n G]).run Yba.prog w = .ok (.tuple #[]) w') ∧ RowB w' D n (fun _ => false) ∧ Keep (fun k => k = D) w w' := by
  by_cases hn : n = 0
  · subst hn
    exact ⟨w, fun ty => by simp [Builtin.clear_, run_underlying Yba.underlying85], ⟨fun i hi => by omega, hr.free⟩, Keep.refl _ _⟩
  · obtain ⟨i, hi, hz, hs, hb⟩ := inf4
    refine ⟨w.setCells D 0 (List.replicate n (.bool false)), fun ty => Lib.run_clear_slice w 85 4 ty (.bool false) Yba.underlying85 (fun w => by simp [zeroValue, typeInfo, hi, hz]) rfl rfl D 0 n G (by omega) (fun j hj => by rw [Nat.zero_add, hr.cell j hj]; rfl) (fun j hj => hr.free _), ⟨fun i hi => ?_, fun i => by rw [World.frozen?_setCells]; exact hr.free i⟩, Keep.setCells D _ 0 w⟩
    have := World.cell?_setCells_in D (List.replicate n (.bool false)) 0 w (fun j hj => by rw [Nat.zero_add, hr.cell j (by simpa using hj)]; rfl) i (by simpa using hi)
    simpa using this

set_option maxHeartbeats 1000000 in
set_option maxRecDepth 100000 in
theorem drop_any (T N F Dp Lv n cn m cf cd cl : Nat) (fs : Nat → Nat) (g0 : Nat → Bool) (f0 : Nat → Int) (w : World) (hn : n ≤ 2000000) (hm : m ≤ 100000) (hcd : cd ≤ 2097152) (hcl : cl ≤ 2097152)
    (hT : T < w.heap.size) (hF : F < w.heap.size) (hD : Dp < w.heap.size) (hL : Lv < w.heap.size) (nTF : T ≠ F) (nTD : T ≠ Dp) (nTL : T ≠ Lv) (nDL : Dp ≠ Lv) (nFD : F ≠ Dp) (nFL : F ≠ Lv)
    (t0 : w.cell? ⟨T, 0, none⟩ = some (.slice (some ⟨N, 0, none⟩) n cn)) (t2 : w.cell? ⟨T, 2, none⟩ = some (.slice (some ⟨F, 0, none⟩) (m + 1) cf))
    (t4 : w.cell? ⟨T, 4, none⟩ = some (.slice (some ⟨Dp, 0, none⟩) cd cd)) (t5 : w.cell? ⟨T, 5, none⟩ = some (.slice (some ⟨Lv, 0, none⟩) cl cl)) (tf : ∀ i, w.frozen? ⟨T, i, none⟩ = false)
    (hf : ∀ i, i ≤ m → w.cell? ⟨F, i, none⟩ = some (.int .i64 (fs i : Int))) (hfn : ∀ i, i ≤ m → fs i ≤ n) (rD : RowB w Dp cd g0) (rL : Row32 w Lv cl f0) :
    Calls Yba.prog 10 #[.pointer (some ⟨T, 0, none⟩)] w fun e w' => e = .returned (.tuple #[]) ∧ ∃ D' L' G1 G2, w'.cell? ⟨T, 4, none⟩ = some (.slice (some ⟨D', 0, none⟩) n G1) ∧ w'.cell? ⟨T, 5, none⟩ = some (.slice (some ⟨L', 0, none⟩) n G2) ∧
      (∀ i, i ≠ 4 → i ≠ 5 → w'.cell? ⟨T, i, none⟩ = w.cell? ⟨T, i, none⟩) ∧ RowB w' D' n (fun _ => false) ∧ Row32 w' L' n (lay (fun i => if i < cl then f0 i else 0) (am fs m)) ∧ Keep (fun k => k = T ∨ k = Dp ∨ k = Lv) w w' ∧ D' < w'.heap.size ∧ L' < w'.heap.size := by
  have hb1 : (n : Int) ≤ 2000000 := by omega
  have hb2 : (m : Int) ≤ 100000 := by omega
  have hb3 : (cd : Int) ≤ 2097152 := by omega
  have hb4 : (cl : Int) ≤ 2097152 := by omega
  have HG := fun _ : Unit => growB Dp cd n g0 w hcd hn rD
  have HAll : Hid (∀ (w1 : World) (D' G1 : Nat) (g1 : Nat → Bool), n ≤ G1 → RowB w1 D' n g1 → Grew w w1 Dp D' → w1.cell? ⟨T, 4, none⟩ = some (.slice (some ⟨Dp, 0, none⟩) cd cd) ∧ w1.cell? ⟨T, 5, none⟩ = some (.slice (some ⟨Lv, 0, none⟩) cl cl) ∧ w1.frozen? ⟨T, 4, none⟩ = false ∧
      ∀ w2, w2 = w1.setCell ⟨T, 4, none⟩ (.slice (some ⟨D', 0, none⟩) n G1) → Row32 w2 Lv cl f0 ∧ w2.cell? ⟨T, 5, none⟩ = some (.slice (some ⟨Lv, 0, none⟩) cl cl) ∧ w2.frozen? ⟨T, 5, none⟩ = false ∧
      ∀ (w3 : World) (L' G2 : Nat), n ≤ G2 → Row32 w3 L' n (fun i => if i < cl then f0 i else 0) → Grew w2 w3 Lv L' → w3.cell? ⟨T, 5, none⟩ = some (.slice (some ⟨Lv, 0, none⟩) cl cl) ∧ w3.frozen? ⟨T, 5, none⟩ = false ∧
      ∀ w4, w4 = w3.setCell ⟨T, 5, none⟩ (.slice (some ⟨L', 0, none⟩) n G2) → w4.cell? ⟨T, 4, none⟩ = some (.slice (some ⟨D', 0, none⟩) n G1) ∧
      ∃ w5, (∀ ty, (Builtin.clear_ #[85] ty #[.slice (some ⟨D', 0, none⟩) n G1]).run Yba.prog w4 = .ok (.tuple #[]) w5) ∧ w5.cell? ⟨T, 4, none⟩ = some (.slice (some ⟨D', 0, none⟩) n G1) ∧ w5.cell? ⟨T, 5, none⟩ = some (.slice (some ⟨L', 0, none⟩) n G2) ∧ RowB w5 D' n (fun _ => false) ∧ Row32 w5 L' n (fun i => if i < cl then f0 i else 0) ∧
        Keep (fun k => k = T ∨ k = Dp ∨ k = Lv) w w5 ∧ (∀ i, i ≠ 4 → i ≠ 5 → w5.cell? ⟨T, i, none⟩ = w.cell? ⟨T, i, none⟩) ∧ T ≠ L' ∧ F ≠ L' ∧ D' ≠ L' ∧ (L' = Lv ∨ w.heap.size ≤ L') ∧ D' < w5.heap.size ∧ L' < w5.heap.size) := by
    intro w1 D' G1 g1 hG1 r1 gr1
    have k1 := gr1.keep
    have p1 := gr1.place
    have hT1 : T < w1.heap.size := Nat.lt_of_lt_of_le hT k1.size
    have c1 : ∀ i, w1.cell? ⟨T, i, none⟩ = w.cell? ⟨T, i, none⟩ := fun i => k1.cell ⟨T, i, none⟩ hT (fun h => h)
    have z1 : ∀ i, w1.frozen? ⟨T, i, none⟩ = false := fun i => (k1.free ⟨T, i, none⟩ hT (fun h => h)).trans (tf i)
    have nTD' : T ≠ D' := by rcases p1 with h | h <;> omega
    have nFD' : F ≠ D' := by rcases p1 with h | h <;> omega
    have nLD' : Lv ≠ D' := by rcases p1 with h | h <;> omega
    have hD1 : D' < w1.heap.size := by have := k1.size; rcases p1 with h | h <;> omega
    refine ⟨(c1 4).trans t4, (c1 5).trans t5, z1 4, ?_⟩
    rintro w2 rfl
    generalize hw2 : w1.setCell ⟨T, 4, none⟩ (.slice (some ⟨D', 0, none⟩) n G1) = w2
    have k2 : Keep (fun k => k = T) w1 w2 := hw2 ▸ Keep.setCell w1 ⟨T, 4, none⟩ _
    have c2 : ∀ i, i ≠ 4 → w2.cell? ⟨T, i, none⟩ = w.cell? ⟨T, i, none⟩ := fun i hi => by rw [← hw2, World.cell?_setCell_other _ _ _ _ (by intro q; injection q with _ q2 _; exact hi q2.symm)]; exact c1 i
    have c24 : w2.cell? ⟨T, 4, none⟩ = some (.slice (some ⟨D', 0, none⟩) n G1) := by rw [← hw2]; exact World.cell?_setCell_same _ _ _ ((c1 4).trans t4)
    have z2 : ∀ i, w2.frozen? ⟨T, i, none⟩ = false := fun i => by rw [← hw2, World.frozen?_setCell]; exact z1 i
    have r2 : RowB w2 D' n g1 := k2.rowB r1 hD1 (Ne.symm nTD')
    have rL2 : Row32 w2 Lv cl f0 := k2.row32 (k1.row32 rL hL (fun h => h)) (Nat.lt_of_lt_of_le hL k1.size) (Ne.symm nTL)
    refine ⟨rL2, (c2 5 (by omega)).trans t5, z2 5, ?_⟩
    intro w3 L' G2 hG2 r3 gr3
    have k3 := gr3.keep
    have p3 := gr3.place
    have hT2 : T < w2.heap.size := Nat.lt_of_lt_of_le hT1 k2.size
    have hD2 : D' < w2.heap.size := Nat.lt_of_lt_of_le hD1 k2.size
    have hF2 : F < w2.heap.size := Nat.lt_of_lt_of_le (Nat.lt_of_lt_of_le hF k1.size) k2.size
    have hL2 : Lv < w2.heap.size := Nat.lt_of_lt_of_le (Nat.lt_of_lt_of_le hL k1.size) k2.size
    have nTL' : T ≠ L' := by rcases p3 with h | h <;> omega
    have nFL' : F ≠ L' := by rcases p3 with h | h <;> omega
    have nDL' : D' ≠ L' := by rcases p3 with h | h <;> omega
    have c3 : ∀ i, w3.cell? ⟨T, i, none⟩ = w2.cell? ⟨T, i, none⟩ := fun i => k3.cell ⟨T, i, none⟩ hT2 (fun h => h)
    have z3 : ∀ i, w3.frozen? ⟨T, i, none⟩ = false := fun i => (k3.free ⟨T, i, none⟩ hT2 (fun h => h)).trans (z2 i)
    refine ⟨(c3 5).trans ((c2 5 (by omega)).trans t5), z3 5, ?_⟩
    rintro w4 rfl
    generalize hw4 : w3.setCell ⟨T, 5, none⟩ (.slice (some ⟨L', 0, none⟩) n G2) = w4
    have k4 : Keep (fun k => k = T) w3 w4 := hw4 ▸ Keep.setCell w3 ⟨T, 5, none⟩ _
    have c4 : ∀ i, i ≠ 5 → w4.cell? ⟨T, i, none⟩ = w2.cell? ⟨T, i, none⟩ := fun i hi => by rw [← hw4, World.cell?_setCell_other _ _ _ _ (by intro q; injection q with _ q2 _; exact hi q2.symm)]; exact c3 i
    have c45 : w4.cell? ⟨T, 5, none⟩ = some (.slice (some ⟨L', 0, none⟩) n G2) := by rw [← hw4]; exact World.cell?_setCell_same _ _ _ ((c3 5).trans ((c2 5 (by omega)).trans t5))
    have hD3 : D' < w3.heap.size := Nat.lt_of_lt_of_le hD2 k3.size
    have hL3 : L' < w3.heap.size := by have := k3.size; rcases p3 with h | h <;> omega
    have r4 : RowB w4 D' n g1 := k4.rowB (k3.rowB r2 hD2 (fun h => h)) hD3 (Ne.symm nTD')
    have q4 : Row32 w4 L' n _ := k4.row32 r3 hL3 (Ne.symm nTL')
    obtain ⟨w5, h5, r5, k5⟩ := clear_run w4 D' n G1 g1 r4
    have hT4 : T < w4.heap.size := Nat.lt_of_lt_of_le (Nat.lt_of_lt_of_le hT2 k3.size) k4.size
    have c5 : ∀ i, w5.cell? ⟨T, i, none⟩ = w4.cell? ⟨T, i, none⟩ := fun i => k5.cell ⟨T, i, none⟩ hT4 nTD'
    refine ⟨(c4 4 (by omega)).trans c24, w5, h5, (c5 4).trans ((c4 4 (by omega)).trans c24), (c5 5).trans c45, r5, k5.row32 q4 (Nat.lt_of_lt_of_le hL3 k4.size) (Ne.symm nDL'), ?_, fun i h4 h5 => (c5 i).trans ((c4 i h5).trans (c2 i h4)), nTL', nFL', nDL', ?_, Nat.lt_of_lt_of_le (Nat.lt_of_lt_of_le hD3 k4.size) k5.size, Nat.lt_of_lt_of_le (Nat.lt_of_lt_of_le hL3 k4.size) k5.size⟩
    · have a1 : Keep (fun k => k = T ∨ k = Dp ∨ k = Lv) w w1 := (Keep.refl _ w).trans k1 (fun _ h => h.elim)
      have a2 := a1.trans k2 (fun _ h => .inl (.inl h))
      have a3 := a2.trans k3 (fun _ h => h.elim)
      have a4 := a3.trans k4 (fun _ h => .inl (.inl h))
      refine a4.trans k5 (fun i h => ?_)
      rcases p1 with h1 | h1
      · exact .inl (.inr (.inl (h.trans h1)))
      · right; omega
    · have := k1.size; have := k2.size; rcases p3 with h | h
      · exact .inl h
      · right; omega
  clear rD rL tf
  go_enter Yba.func10, Yba.ntmps10
  go_wp2_with (first
    | (go_at_call 19; refine (HG ()).mono ?_; rintro e w1 ⟨D', G1, rfl, hG1, hG1', ⟨g1, r1⟩, gr1⟩; have HA2 := HAll.out w1 D' G1 g1 hG1 r1 gr1; obtain ⟨a4, a5, z4, HB⟩ := HA2; have hG1i : (n : Int) ≤ (G1 : Int) := (by omega); have HB2 : Hid _ := HB; clear HB r1 gr1)
    | (go_at_call 20; obtain ⟨rL2, b5, zb5, HC⟩ := HB2.out _ rfl; refine (grow32 Lv cl n f0 _ hcl hn rL2).mono ?_; rintro e w3 ⟨L', G2, rfl, hG2, hG2', r3, gr3⟩; obtain ⟨d5, zd5, HE⟩ := HC w3 L' G2 hG2 r3 gr3; obtain ⟨x4, w5, h5, y4, y5, r5, q5, k5, c5, n1, n2, n3, n4, n5, n6⟩ := HE _ rfl; have x4' : w3.cell? ⟨T, 4, none⟩ = some (.slice (some ⟨D', 0, none⟩) n G1) := (by rw [World.cell?_setCell_other _ _ _ _ (by intro q; injection q with _ q2 _; omega)] at x4; exact x4); have y2 : w5.cell? ⟨T, 2, none⟩ = some (.slice (some ⟨F, 0, none⟩) (m + 1) cf) := (c5 2 (by omega) (by omega)).trans t2; have hG2i : (n : Int) ≤ (G2 : Int) := (by omega); have HK : Hid _ := k5; have HN : Hid _ := n4; clear HE HC r3 gr3 x4 k5 n4))
  clear HG HAll HB2 rL2 b5 zb5 h5 a4 a5 z4 d5 zd5 x4'
  have hF5 : F < w5.heap.size := Nat.lt_of_lt_of_le hF HK.out.size
  have hT5 : T < w5.heap.size := Nat.lt_of_lt_of_le hT HK.out.size
  have hf5 : ∀ i, i ≤ m → w5.cell? ⟨F, i, none⟩ = some (.int .i64 (fs i : Int)) := fun i hi => (HK.out.cell ⟨F, i, none⟩ hF (by rintro (h | h | h); exact nTF h.symm; exact nFD h; exact nFL h)).trans (hf i hi)
  clear hf
  go_loopw [43] (fun i wr => ∃ g : Nat, g ≤ m ∧ i = .int .i64 g ∧ Hid (Row32 wr L' n (lay (fun i => if i < cl then f0 i else 0) (am fs g))) ∧ Hid (Keep (fun k => k = L') w5 wr)) (fun i _ => m - (intOf i).toNat)
  case atStart => exact ⟨0, Nat.zero_le _, rfl, q5, Keep.refl _ _⟩
  case round =>
    obtain ⟨g, hg, rfl, HR, HK2⟩ := hrel
    by_cases hlt : g < m
    · have e2 : wr.cell? ⟨T, 2, none⟩ = some (.slice (some ⟨F, 0, none⟩) (m + 1) cf) := (HK2.out.cell ⟨T, 2, none⟩ hT5 n1).trans y2
      have e5 : wr.cell? ⟨T, 5, none⟩ = some (.slice (some ⟨L', 0, none⟩) n G2) := (HK2.out.cell ⟨T, 5, none⟩ hT5 n1).trans y5
      have f1 : wr.cell? ⟨F, g, none⟩ = some (.int .i64 (fs g : Int)) := (HK2.out.cell ⟨F, g, none⟩ hF5 n2).trans (hf5 g hg)
      have f2 : wr.cell? ⟨F, g + 1, none⟩ = some (.int .i64 (fs (g + 1) : Int)) := (HK2.out.cell ⟨F, g + 1, none⟩ hF5 n2).trans (hf5 (g + 1) hlt)
      have k0 : (0 : Int) ≤ (g : Int) := by omega
      have k1 : (g : Int) < (m : Int) := by omega
      have kw : IntKind.i64.wrap ((g : Int) + 1) = (g : Int) + 1 := by rw [IntKind.wrap_i64]; omega
      have k2 : (g : Int) < (m : Int) + 1 := by omega
      have k3 : (0 : Int) ≤ (g : Int) + 1 := by omega
      have k4 : ((g : Int) + 1).toNat = g + 1 := by omega
      have HP : Hid (∀ v : World, Keep (fun _ => False) wr v → Calls Yba.prog 21 #[.pointer (some ⟨T, 0, none⟩), .int .i64 (fs g : Int), .int .i64 (fs (g + 1) : Int)] v fun e w6 => e = .returned (.tuple #[]) ∧ w6.cell? ⟨T, 2, none⟩ = some (.slice (some ⟨F, 0, none⟩) (m + 1) cf) ∧ w6.cell? ⟨F, g, none⟩ = some (.int .i64 (fs g : Int)) ∧ w6.cell? ⟨F, g + 1, none⟩ = some (.int .i64 (fs (g + 1) : Int)) ∧
          Hid (Row32 w6 L' n (lay (fun i => if i < cl then f0 i else 0) (am fs (g + 1)))) ∧ Hid (Keep (fun k => k = L') w5 w6)) := by
        intro v kv
        have hs := HK2.out.size
        have hs2 := kv.size
        have rv := kv.row32 HR.out (by omega) (fun h => h)
        refine (live_any T L' n G2 n1 hn _ (fs g) (fs (g + 1)) v _ (Nat.le_refl _) (hfn _ hlt) (hfn _ hg) ((kv.cell ⟨T, 5, none⟩ (by show T < _; omega) (fun h => h)).trans e5) rv).mono ?_
        rintro e w6 ⟨rfl, rfl⟩
        have kk : Keep (fun k => k = L') wr (setW L' (mks (fs g) (fs (g + 1))) v) := ((Keep.refl _ wr).trans kv (fun _ h => h.elim)).trans (Keep.setW L' (mks (fs g) (fs (g + 1))) v) (fun _ h => .inl h)
        refine ⟨rfl, (kk.cell ⟨T, 2, none⟩ (by show T < _; omega) n1).trans e2, (kk.cell ⟨F, g, none⟩ (by show F < _; omega) n2).trans f1, (kk.cell ⟨F, g + 1, none⟩ (by show F < _; omega) n2).trans f2, ?_, HK2.out.trans kk (fun _ h => .inl h)⟩
        have := setW_row L' n (mks (fs g) (fs (g + 1))) v _ rv (fun p hp => by
          have := (mks_in _ _ _ (Nat.le_refl _) p hp).2.1
          have := hfn (g + 1) hlt
          omega)
        have e : lay (lay (fun i => if i < cl then f0 i else 0) (am fs g)) (mks (fs g) (fs (g + 1))) = lay (fun i => if i < cl then f0 i else 0) (am fs (g + 1)) := by
          funext i; rw [am, lay_append]
        rw [e] at this
        exact this
      clear HR e5 y2 y5 r5 q5 c5
      go_wp2
      go_region_held3 (fun w' => w'.cell? ⟨T, 2, none⟩ = some (.slice (some ⟨F, 0, none⟩) (m + 1) cf) ∧ w'.cell? ⟨F, g, none⟩ = some (.int .i64 (fs g : Int)) ∧ w'.cell? ⟨F, g + 1, none⟩ = some (.int .i64 (fs (g + 1) : Int))) (first | exact ⟨e2, f1, f2⟩ | exact ⟨e6, f6, g6⟩ | go_keep) (first | (go_at_call 21; refine (HP.out _ ?_).mono ?_; (exact ⟨rfl, rfl, rfl, Nat.le_refl _, fun _ _ _ => rfl⟩); rintro e w6 ⟨rfl, e6, f6, g6, HR6, HK6⟩))
      go_wp2
      go_roundw
      case rel => exact ⟨g + 1, by omega, by go_num, HR6, HK6⟩
      case measure => simp [intOf]; omega
    · have e : g = m := by omega
      subst e
      go_wp2
      go_end0
      have hn3 : ¬ D' = L' := n3
      refine ⟨rfl, D', L', G1, G2, (HK2.out.cell ⟨T, 4, none⟩ hT5 n1).trans y4, (HK2.out.cell ⟨T, 5, none⟩ hT5 n1).trans y5, fun i h4 h5 => (HK2.out.cell ⟨T, i, none⟩ hT5 n1).trans (c5 i h4 h5), HK2.out.rowB r5 n5 hn3, HR.out, HK.out.trans HK2.out (fun i h => ?_), Nat.lt_of_lt_of_le n5 HK2.out.size, Nat.lt_of_lt_of_le n6 HK2.out.size⟩
      rcases HN.out with h1 | h1
      · exact .inl (.inr (.inr (h.trans h1)))
      · right; omega

end Go.Proofs.Ybulkdvcg

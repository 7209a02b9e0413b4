/-
  What the law has laid in memory ahead of the call of dropping, and behind it.
-/
import Derived.Test.YbulkdvcgMake
namespace Go.Proofs.Ybulkdvcg
open Go.RowKit

theorem keep_of_below {w w' : World} (h : Below w.heap.size w w') : Keep (fun _ => False) w w' := ⟨h.os, h.tape, h.output, h.size, fun k hk _ => h.block k hk⟩
theorem Keep.any {F : Nat → Prop} {w w' : World} (h : Keep (fun _ => False) w w') : Keep F w w' := ⟨h.os, h.tape, h.output, h.size, fun k hk _ => h.block k hk (fun x => x)⟩
theorem Keep.nodes {F : Nat → Prop} {w w' : World} (h : Keep F w w') {N n k : Nat} (hr : Nodes w N n k) (hk : N < w.heap.size) (hF : ¬ F N) : Nodes w' N n k := hr.keep (h.block _ hk hF)

/-- The rows that stand when the three copies are made. -/
structure Laid (w : World) (W0 g k n N L0 D0 A0 cl cd ca : Nat) (fs : Nat → Nat) (f0 : Nat → Int) (g0 h0 : Nat → Bool) (w' : World) : Prop where
  below : Below W0 w w'
  low : W0 ≤ g
  gN : g < N
  NL : N < L0
  LD : L0 < D0
  DA : D0 < A0
  top : A0 < w'.heap.size
  row : ∀ i, i ≤ k → w'.cell? ⟨g, i, none⟩ = some (.int .i64 (fs i : Int))
  nodes : Nodes w' N n n
  live : Row32 w' L0 cl f0
  dead : RowB w' D0 cd g0
  lone : RowB w' A0 ca h0
theorem Laid.keep {w : World} {W0 g k n N L0 D0 A0 cl cd ca : Nat} {fs : Nat → Nat} {f0 : Nat → Int} {g0 h0 : Nat → Bool} {w1 w2 : World} (h : Laid w W0 g k n N L0 D0 A0 cl cd ca fs f0 g0 h0 w1) (hk : Keep (fun _ => False) w1 w2) : Laid w W0 g k n N L0 D0 A0 cl cd ca fs f0 g0 h0 w2 := by
  have hs := hk.size
  have h1 := h.low; have h2 := h.gN; have h3 := h.NL; have h4 := h.LD; have h5 := h.DA; have h6 := h.top
  exact ⟨h.below.trans (hk.below (fun _ h => h.elim) (by omega)), h1, h2, h3, h4, h5, by omega, fun i hi => (hk.cell ⟨g, i, none⟩ (by show g < _; omega) (fun x => x)).trans (h.row i hi), hk.nodes h.nodes (by omega) (fun x => x), hk.row32 h.live (by omega) (fun x => x), hk.rowB h.dead (by omega) (fun x => x), hk.rowB h.lone (by omega) (fun x => x)⟩

theorem prep (w wr : World) (W0 g k n N cl cd ca : Nat) (fs : Nat → Nat) (f0 : Nat → Int) (g0 h0 : Nat → Bool) (a3 a4 a5 : Option Addr) (b3 o3 c3 b4 o4 c4 b5 o5 c5 : Nat) (hW0 : w.heap.size = W0)
    (hcl : cl ≤ 2097152) (hcd : cd ≤ 2097152) (hca : ca ≤ 2097152) (hB : Below W0 w wr) (hlow : W0 ≤ g) (hgN : g < N) (hN : N < wr.heap.size) (hrow : ∀ i, i ≤ k → wr.cell? ⟨g, i, none⟩ = some (.int .i64 (fs i : Int))) (hnod : Nodes wr N n n)
    (ha3 : 0 < cl → a3 = some ⟨b3, o3, none⟩) (hs3 : ∀ j, j < cl → w.cell? ⟨b3, o3 + j, none⟩ = some (.int .i32 (f0 j)))
    (ha4 : 0 < cd → a4 = some ⟨b4, o4, none⟩) (hs4 : ∀ j, j < cd → w.cell? ⟨b4, o4 + j, none⟩ = some (.bool (g0 j)))
    (ha5 : 0 < ca → a5 = some ⟨b5, o5, none⟩) (hs5 : ∀ j, j < ca → w.cell? ⟨b5, o5 + j, none⟩ = some (.bool (h0 j))) :
    ∃ w3 w4 w5 w6 w7 w8 L0 D0 A0, (opMk 37 (.int .i64 cl) (.int .i64 cl)).run Yba.prog wr = .ok (.value (.slice (some ⟨L0, 0, none⟩) cl cl)) w3 ∧ (∀ ty, (Builtin.copy_ #[37, 37] ty #[.slice (some ⟨L0, 0, none⟩) cl cl, .slice a3 cl c3]).run Yba.prog w3 = .ok (goInt cl) w4) ∧
      (opMk 85 (.int .i64 cd) (.int .i64 cd)).run Yba.prog w4 = .ok (.value (.slice (some ⟨D0, 0, none⟩) cd cd)) w5 ∧ (∀ ty, (Builtin.copy_ #[85, 85] ty #[.slice (some ⟨D0, 0, none⟩) cd cd, .slice a4 cd c4]).run Yba.prog w5 = .ok (goInt cd) w6) ∧
      (opMk 85 (.int .i64 ca) (.int .i64 ca)).run Yba.prog w6 = .ok (.value (.slice (some ⟨A0, 0, none⟩) ca ca)) w7 ∧ (∀ ty, (Builtin.copy_ #[85, 85] ty #[.slice (some ⟨A0, 0, none⟩) ca ca, .slice a5 ca c5]).run Yba.prog w7 = .ok (goInt ca) w8) ∧
      Laid w W0 g k n N L0 D0 A0 cl cd ca fs f0 g0 h0 w8 := by
  have lt3 : ∀ j, j < cl → b3 < W0 := fun j hj => by have := World.block_lt_of_cell? w _ (hs3 j hj); rw [hW0] at this; exact this
  have lt4 : ∀ j, j < cd → b4 < W0 := fun j hj => by have := World.block_lt_of_cell? w _ (hs4 j hj); rw [hW0] at this; exact this
  have lt5 : ∀ j, j < ca → b5 < W0 := fun j hj => by have := World.block_lt_of_cell? w _ (hs5 j hj); rw [hW0] at this; exact this
  obtain ⟨w3, r3, R3, k3, s3⟩ := mk37 wr cl hcl
  have B3 : Below W0 w w3 := hB.trans (k3.below (fun _ h => h.elim) (by omega))
  obtain ⟨w4, r4, R4, k4, s4⟩ := copy32 w3 wr.heap.size cl cl a3 b3 o3 c3 f0 _ R3 ha3 (fun i hi => by rw [B3.cell (p := ⟨b3, o3 + i, none⟩) (lt3 i hi)]; exact hs3 i hi)
  have B4 : Below W0 w w4 := B3.trans (k4.below (fun _ h => by omega) (by omega))
  obtain ⟨w5, r5, R5, k5, s5⟩ := mk85 w4 cd hcd
  have B5 : Below W0 w w5 := B4.trans (k5.below (fun _ h => h.elim) (by omega))
  obtain ⟨w6, r6, R6, k6, s6⟩ := copyB w5 w4.heap.size cd cd a4 b4 o4 c4 g0 _ R5 ha4 (fun i hi => by rw [B5.cell (p := ⟨b4, o4 + i, none⟩) (lt4 i hi)]; exact hs4 i hi)
  have B6 : Below W0 w w6 := B5.trans (k6.below (fun _ h => by omega) (by omega))
  obtain ⟨w7, r7, R7, k7, s7⟩ := mk85 w6 ca hca
  have B7 : Below W0 w w7 := B6.trans (k7.below (fun _ h => h.elim) (by omega))
  obtain ⟨w8, r8, R8, k8, s8⟩ := copyB w7 w6.heap.size ca ca a5 b5 o5 c5 h0 _ R7 ha5 (fun i hi => by rw [B7.cell (p := ⟨b5, o5 + i, none⟩) (lt5 i hi)]; exact hs5 i hi)
  have B8 : Below W0 w w8 := B7.trans (k8.below (fun _ h => by omega) (by omega))
  have K : Keep (fun b => wr.heap.size ≤ b) wr w8 := by
    refine (((((k3.any.trans k4 (fun i h => .inl (by omega))).trans k5 (fun i h => h.elim)).trans k6 (fun i h => .inl (by omega))).trans k7 (fun i h => h.elim)).trans k8 (fun i h => .inl (by omega)))
  have K4 : Keep (fun b => w4.heap.size ≤ b) w4 w8 := (((k5.any.trans k6 (fun i h => .inl (by omega))).trans k7 (fun i h => h.elim)).trans k8 (fun i h => .inl (by omega)))
  have K6 : Keep (fun b => w6.heap.size ≤ b) w6 w8 := (k7.any.trans k8 (fun i h => .inl (by omega)))
  refine ⟨w3, w4, w5, w6, w7, w8, wr.heap.size, w4.heap.size, w6.heap.size, r3, r4, r5, r6, r7, r8, B8, hlow, hgN, hN, by omega, by omega, by omega, fun i hi => (K.cell ⟨g, i, none⟩ (by show g < _; omega) (by show ¬ _ ≤ g; omega)).trans (hrow i hi), K.nodes hnod hN (by omega), K4.row32 R4 (by omega) (by omega), K6.rowB R6 (by omega) (by omega), R8⟩

end Go.Proofs.Ybulkdvcg

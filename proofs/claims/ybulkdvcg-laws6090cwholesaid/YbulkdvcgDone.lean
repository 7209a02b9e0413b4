/-
  What stands when dropping has returned.
-/
import Derived.Test.YbulkdvcgPrep
namespace Go.Proofs.Ybulkdvcg
open Go.RowKit

theorem row_cell {w : World} {base : Nat} {e : TypeId} {g n cap : Nat} {xs : List Value} (h : w.ownsRow base e 1 (.slice (some ⟨g, 0, none⟩) n cap) n xs) (i : Nat) (u : Value) (hu : xs[i]? = some u) : w.cell? ⟨g, i, none⟩ = some u := by
  have hj : i < n * 1 := by have := (List.getElem?_eq_some_iff.1 hu).1; rw [h.1] at this; exact this
  rw [h.cellAt i hj, hu]

/-- The cells of the tree. -/
def treeC (N n g k cap : Nat) (p : Int) (D' G1 L' G2 A0 ca : Nat) : Array Value := #[.slice (some ⟨N, 0, none⟩) n n, .slice none 0 0, .slice (some ⟨g, 0, none⟩) (k + 1) cap, .int .i64 p, .slice (some ⟨D', 0, none⟩) n G1, .slice (some ⟨L', 0, none⟩) n G2, .slice (some ⟨A0, 0, none⟩) ca ca]

structure Done (w : World) (W0 T g cap C k n N D' L' A0 G1 G2 cl ca : Nat) (p : Int) (fs : Nat → Nat) (f0 : Nat → Int) (h0 : Nat → Bool) (w' : World) : Prop where
  below : Below W0 w w'
  low : W0 ≤ w'.heap.size
  tree : ∀ i v, (treeC N n g k cap p D' G1 L' G2 A0 ca)[i]? = some v → w'.cell? ⟨T, i, none⟩ = some v
  row : ∀ i, i ≤ k → w'.cell? ⟨g, i, none⟩ = some (.int .i64 (fs i : Int))
  copy : ∀ i, i ≤ k → w'.cell? ⟨C, i, none⟩ = some (.int .i64 (fs i : Int))
  nodes : Nodes w' N n n
  dead : RowB w' D' n (fun _ => false)
  live : Row32 w' L' n (lay (fun i => if i < cl then f0 i else 0) (am fs k))
  lone : RowB w' A0 ca h0
  lt : T < w'.heap.size ∧ g < w'.heap.size ∧ C < w'.heap.size ∧ N < w'.heap.size ∧ D' < w'.heap.size ∧ L' < w'.heap.size ∧ A0 < w'.heap.size
theorem Done.keep {w : World} {W0 T g cap C k n N D' L' A0 G1 G2 cl ca : Nat} {p : Int} {fs : Nat → Nat} {f0 : Nat → Int} {h0 : Nat → Bool} {w1 w2 : World} (h : Done w W0 T g cap C k n N D' L' A0 G1 G2 cl ca p fs f0 h0 w1) (hk : Keep (fun b => w1.heap.size ≤ b) w1 w2) :
    Done w W0 T g cap C k n N D' L' A0 G1 G2 cl ca p fs f0 h0 w2 := by
  obtain ⟨l1, l2, l3, l4, l5, l6, l7⟩ := h.lt
  have hs := hk.size
  have hl := h.low
  exact ⟨h.below.trans (hk.below (fun _ h => by omega) hl), by omega, fun i v hv => (hk.cell ⟨T, i, none⟩ l1 (Nat.not_le.2 l1)).trans (h.tree i v hv), fun i hi => (hk.cell ⟨g, i, none⟩ l2 (Nat.not_le.2 l2)).trans (h.row i hi), fun i hi => (hk.cell ⟨C, i, none⟩ l3 (Nat.not_le.2 l3)).trans (h.copy i hi),
    hk.nodes h.nodes l4 (Nat.not_le.2 l4), hk.rowB h.dead l5 (Nat.not_le.2 l5), hk.row32 h.live l6 (Nat.not_le.2 l6), hk.rowB h.lone l7 (Nat.not_le.2 l7), by omega, by omega, by omega, by omega, by omega, by omega, by omega⟩

theorem drop_call (w w8 w9 : World) (W0 g cap k n N L0 D0 A0 cl cd ca : Nat) (p : Int) (fs : Nat → Nat) (f0 : Nat → Int) (g0 h0 : Nat → Bool) (v9 : Value) (HL : Laid w W0 g k n N L0 D0 A0 cl cd ca fs f0 g0 h0 w8)
    (hn : n ≤ 2000000) (hk : k ≤ 100000) (hcd : cd ≤ 2097152) (hcl : cl ≤ 2097152) (hfn : ∀ i, i ≤ k → fs i ≤ n) (ho9 : w9.ownsRow w8.heap.size 3 1 v9 (k + 1) (rowI (k + 1) fs)) (hb9 : Below w8.heap.size w8 w9) :
    ∃ C cc, v9 = .slice (some ⟨C, 0, none⟩) (k + 1) cc ∧ Calls Yba.prog 10 #[.pointer (some ⟨w9.heap.size, 0, none⟩)] (w9.alloc (.cells #[.slice (some ⟨N, 0, none⟩) n n, .slice none 0 0, .slice (some ⟨g, 0, none⟩) (k + 1) cap, .int .i64 p, .slice (some ⟨D0, 0, none⟩) cd cd, .slice (some ⟨L0, 0, none⟩) cl cl, .slice (some ⟨A0, 0, none⟩) ca ca] 92)) fun e w' => e = .returned (.tuple #[]) ∧
      ∃ D' L' G1 G2, Done w W0 w9.heap.size g cap C k n N D' L' A0 G1 G2 cl ca p fs f0 h0 w' := by
  have hlow := HL.low; have hgN := HL.gN; have hNL := HL.NL; have hLD := HL.LD; have hDA := HL.DA; have htop := HL.top
  have hs9 := hb9.size
  have HL9 := HL.keep (keep_of_below hb9)
  obtain ⟨C, cc, hv, hCl⟩ := ho9.form (by omega)
  refine ⟨C, cc, hv, ?_⟩
  subst hv
  obtain ⟨hC1, hC2⟩ := ho9.lt C rfl
  have kA : Keep (fun _ => False) w9 (w9.alloc (.cells #[.slice (some ⟨N, 0, none⟩) n n, .slice none 0 0, .slice (some ⟨g, 0, none⟩) (k + 1) cap, .int .i64 p, .slice (some ⟨D0, 0, none⟩) cd cd, .slice (some ⟨L0, 0, none⟩) cl cl, .slice (some ⟨A0, 0, none⟩) ca ca] 92)) := Keep.alloc _ w9 _
  have hcell : ∀ i v, (#[Value.slice (some ⟨N, 0, none⟩) n n, .slice none 0 0, .slice (some ⟨g, 0, none⟩) (k + 1) cap, .int .i64 p, .slice (some ⟨D0, 0, none⟩) cd cd, .slice (some ⟨L0, 0, none⟩) cl cl, .slice (some ⟨A0, 0, none⟩) ca ca] : Array Value)[i]? = some v → (w9.alloc (.cells #[.slice (some ⟨N, 0, none⟩) n n, .slice none 0 0, .slice (some ⟨g, 0, none⟩) (k + 1) cap, .int .i64 p, .slice (some ⟨D0, 0, none⟩) cd cd, .slice (some ⟨L0, 0, none⟩) cl cl, .slice (some ⟨A0, 0, none⟩) ca ca] 92)).cell? ⟨w9.heap.size, i, none⟩ = some v := fun i v hv => (World.cell?_alloc_at (w := w9) _ _ _ _ rfl).trans hv
  have hfr : ∀ i, (w9.alloc (.cells #[.slice (some ⟨N, 0, none⟩) n n, .slice none 0 0, .slice (some ⟨g, 0, none⟩) (k + 1) cap, .int .i64 p, .slice (some ⟨D0, 0, none⟩) cd cd, .slice (some ⟨L0, 0, none⟩) cl cl, .slice (some ⟨A0, 0, none⟩) ca ca] 92)).frozen? ⟨w9.heap.size, i, none⟩ = false := fun i => World.frozen?_alloc_at (w := w9) _ _ _ _ rfl
  have hsz : (w9.alloc (.cells #[.slice (some ⟨N, 0, none⟩) n n, .slice none 0 0, .slice (some ⟨g, 0, none⟩) (k + 1) cap, .int .i64 p, .slice (some ⟨D0, 0, none⟩) cd cd, .slice (some ⟨L0, 0, none⟩) cl cl, .slice (some ⟨A0, 0, none⟩) ca ca] 92)).heap.size = w9.heap.size + 1 := by simp
  generalize w9.alloc (.cells #[.slice (some ⟨N, 0, none⟩) n n, .slice none 0 0, .slice (some ⟨g, 0, none⟩) (k + 1) cap, .int .i64 p, .slice (some ⟨D0, 0, none⟩) cd cd, .slice (some ⟨L0, 0, none⟩) cl cl, .slice (some ⟨A0, 0, none⟩) ca ca] 92) = wA at *
  have HLA := HL9.keep kA
  have hcopy : ∀ i, i ≤ k → wA.cell? ⟨C, i, none⟩ = some (.int .i64 (fs i : Int)) := fun i hi => (kA.cell ⟨C, i, none⟩ hC2 (fun x => x)).trans (row_cell ho9 i _ (rowI_at (k + 1) fs i (by omega)))
  refine (drop_any w9.heap.size N g D0 L0 n n k cap cd cl fs g0 f0 wA hn hk hcd hcl (by omega) (by omega) (by omega) (by omega) (by omega) (by omega) (by omega) (by omega) (by omega) (by omega) (hcell 0 _ rfl) (hcell 2 _ rfl) (hcell 4 _ rfl) (hcell 5 _ rfl) hfr HLA.row hfn HLA.dead HLA.live).mono ?_
  rintro e w' ⟨he, D', L', G1, G2, c4, c5, cO, rD, rL, kp, lD, lL⟩
  have hs' := kp.size
  have no : ∀ b, b < w9.heap.size → b ≠ D0 → b ≠ L0 → ¬ (b = w9.heap.size ∨ b = D0 ∨ b = L0) := fun b h1 h2 h3 => by omega
  refine ⟨he, D', L', G1, G2, HLA.below.trans (kp.below (fun b hb => by omega) (by omega)), by omega, fun i v hv => ?_, fun i hi => (kp.cell ⟨g, i, none⟩ (by show g < _; omega) (no g (by omega) (by omega) (by omega))).trans (HLA.row i hi), fun i hi => (kp.cell ⟨C, i, none⟩ (by show C < _; omega) (no C (by omega) (by omega) (by omega))).trans (hcopy i hi), kp.nodes HLA.nodes (by omega) (no N (by omega) (by omega) (by omega)), rD, rL, kp.rowB HLA.lone (by omega) (no A0 (by omega) (by omega) (by omega)), by omega, by omega, by omega, by omega, by omega, by omega, by omega⟩
  match i, hv with
  | 0, hv => rw [cO 0 (by omega) (by omega)]; exact (hcell 0 _ rfl).trans hv
  | 1, hv => rw [cO 1 (by omega) (by omega)]; exact (hcell 1 _ rfl).trans hv
  | 2, hv => rw [cO 2 (by omega) (by omega)]; exact (hcell 2 _ rfl).trans hv
  | 3, hv => rw [cO 3 (by omega) (by omega)]; exact (hcell 3 _ rfl).trans hv
  | 4, hv => exact c4.trans hv
  | 5, hv => exact c5.trans hv
  | 6, hv => rw [cO 6 (by omega) (by omega)]; exact (hcell 6 _ rfl).trans hv
  | i + 7, hv => simp [treeC] at hv

/-- What is not marked reads as it did, what is as the marks say. -/
theorem live_value (cl : Nat) (f0 : Nat → Int) (ms : List (Nat × Nat)) (i : Nat) : lay (fun i => if i < cl then f0 i else 0) ms i = if seen (fun _ => false) ms i = true then lay (fun _ => 0) ms i else if i < cl then f0 i else 0 := by
  by_cases h : seen (fun _ => false) ms i = true
  · rw [if_pos h]
    exact lay_seen ms _ _ (fun _ => false) i (fun h => by cases h) h
  · rw [if_neg h]
    exact (lay_unseen ms _ (fun _ => false) i (by simpa using h)).2

end Go.Proofs.Ybulkdvcg

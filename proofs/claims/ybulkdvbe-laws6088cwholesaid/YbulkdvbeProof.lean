import Derived.Test.YbulkdvbeLaw1
import Derived.WalkKit
import Derived.ProofKit
import Derived.OpenShut
import Derived.ChangeOld
import Derived.Below
import Derived.Deep.Slices
import Derived.Deep.Strs
namespace Go.Proofs.Ybulkdvbe
open Go.ChangeShapes Go.WideShapes Go.ChangeAt Go.RowKit

theorem Yba.own : ownKnob Yba.prog.godebug = none := by kernel_rfl
theorem Yba.laidOut : laidOutB Yba.prog = true := by kernel_rfl
theorem Yba.cells29 : Yba.prog.cellsOf 29 = 3 := by kernel_rfl
theorem Yba.cells27 : Yba.prog.cellsOf 27 = 1 := by kernel_rfl

/-- What is read of one claim. -/
theorem open_claim {H : Type} {enc : TypeId × Value → H} {w : World} {base : Nat} {spare : Nat → Bool} {held : Bool} {n : Nat} {cs : List Value} {x : DataW H × List MemPlace}
    (h : DataW.trod enc Yba.prog w base spare held n 29 cs = some x) : ∃ B P R : Int, cs = [.int .u8 B, .int .u8 P, .int .u32 R] ∧ (0 ≤ B ∧ B ≤ 255) ∧ (0 ≤ P ∧ P ≤ 255) := by
  obtain ⟨y0, y1, y2, m, _, hl, h0, h1, h2⟩ := Deep.trod_struct3 Yba.underlying29 h
  rw [Yba.cells29] at hl
  match cs, hl with
  | [c0, c1, c2], _ =>
    simp only [Yba.cells5, Yba.cells27] at h0 h1 h2
    obtain ⟨B, e0, _, w0⟩ := DataW.trod_int Yba.underlying5 h0
    obtain ⟨P, e1, _, w1⟩ := DataW.trod_int Yba.underlying5 h1
    obtain ⟨R, e2, _, _⟩ := DataW.trod_int Yba.underlying27 h2
    simp at e0 e1 e2
    subst e0 e1 e2
    exact ⟨B, P, R, rfl, bounds_u8 w0, bounds_u8 w1⟩

/-- What is read of the slice of claims. -/
theorem open_claims {H : Type} {enc : TypeId × Value → H} {w : World} {a0 : Option Addr} {len cap : Nat} {d : DataW H} {ps : List MemPlace}
    (h : DataW.Trod enc Yba.prog w 0 (fun _ => true) true 22 (.slice a0 len cap) d ps) :
    ∃ (b off : Nat) (B P R : Nat → Int), (0 < len → a0 = some ⟨b, off, none⟩) ∧ (∀ j, j < len → w.cell? ⟨b, off + j * 3, none⟩ = some (.int .u8 (B j))) ∧ (∀ j, j < len → w.cell? ⟨b, off + j * 3 + 1, none⟩ = some (.int .u8 (P j))) ∧
      (∀ j, j < len → w.cell? ⟨b, off + j * 3 + 2, none⟩ = some (.int .u32 (R j))) ∧ (∀ j, j < len → 0 ≤ B j ∧ B j ≤ 255) ∧ (∀ j, j < len → 0 ≤ P j ∧ P j ≤ 255) := by
  obtain ⟨fuel, hf⟩ := h
  rcases Deep.open_slice Yba.underlying22 hf with ⟨hcs, _⟩ | ⟨a, len', cap', m, n, D, Pl, hcs, _, hl, _, hm, _, hel⟩
  · simp [Value.cells] at hcs
    obtain ⟨rfl, rfl, rfl⟩ := hcs
    exact ⟨0, 0, fun _ => 0, fun _ => 0, fun _ => 0, by omega, by omega, by omega, by omega, by omega, by omega⟩
  · simp [Value.cells] at hcs
    obtain ⟨rfl, rfl, rfl⟩ := hcs
    simp only [if_true] at hm
    subst hm
    have he : ∀ i, i < len → ∃ t : Int × Int × Int, w.cell? (a.add (i * 3)) = some (.int .u8 t.1) ∧ w.cell? ((a.add (i * 3)).add 1) = some (.int .u8 t.2.1) ∧ w.cell? ((a.add (i * 3)).add 2) = some (.int .u32 t.2.2) ∧ (0 ≤ t.1 ∧ t.1 ≤ 255) ∧ (0 ≤ t.2.1 ∧ t.2.1 ≤ 255) := fun i hi => by
      obtain ⟨cs', hc, ht⟩ := hel i (by omega)
      rw [Yba.cells29] at hc
      obtain ⟨B, P, R, rfl, wB, wP⟩ := open_claim ht
      have hs := (World.cells?_some hc).2.2
      exact ⟨(B, P, R), by simpa [Addr.add_zero'] using hs 0 (by omega), by simpa using hs 1 (by omega), by simpa using hs 2 (by omega), wB, wP⟩
    obtain ⟨f, hf2⟩ := Deep.choose_lt he
    obtain ⟨b, off, spot⟩ := a
    have hspot : 0 < len → spot = none := fun h => by
      have := World.cell?_spot (hf2 0 h).1
      simpa [Addr.add] using this
    have e0 : ∀ j, j < len → (⟨b, off, spot⟩ : Addr).add (j * 3) = ⟨b, off + j * 3, none⟩ := fun j hj => by
      rw [hspot (by omega)]; exact Addr.add_mid b off (j * 3)
    refine ⟨b, off, fun j => (f j).1, fun j => (f j).2.1, fun j => (f j).2.2, fun h => by rw [hspot h], fun j hj => ?_, fun j hj => ?_, fun j hj => ?_, fun j hj => (hf2 j hj).2.2.2.1, fun j hj => (hf2 j hj).2.2.2.2⟩
    · have := (hf2 j hj).1; rwa [e0 j hj] at this
    · have := (hf2 j hj).2.1; rwa [e0 j hj, Addr.add_mid] at this
    · have := (hf2 j hj).2.2.1; rwa [e0 j hj, Addr.add_mid] at this

set_option maxRecDepth 100000 in
set_option maxHeartbeats 400000 in
/-- More than 2^20 claims: nothing is done. -/
theorem law_big (a0 : Option Addr) (n cap : Nat) (w : World) (hn : (1048576 : Int) < (n : Int)) :
    Calls Yba.prog 3 #[.slice a0 n cap] w fun e w' => e = .returned (.bool true) ∧ Below w.heap.size w w' := by
  go_enter Yba.func3, Yba.ntmps3
  go_wp2
  go_ret
  exact ⟨rfl, Below.refl _ _⟩

set_option maxRecDepth 100000 in
theorem lifted (os : Os) (started : os.Started) (H : Type) (enc : TypeId × Value → H) :
    ReturnsInHanded {} Yba.checked os 3 .any (Rows.lawS6088CWholeSpec.pre6 enc Yba.prog Yba.f3 Rows.lawS6088CWholeRow.domain false) (Rows.lawS6088CWholeSpec.post enc Yba.prog Yba.f3 false true false false) := by
  refine returnsInHanded_of_change (C := Yba.checked) Yba.own started (by kernel_rfl) Yba.func3
    (ChangeSpec.witness6 (enc := enc) (C := Yba.checked) false ⟨#[], #[.slice none 0 0], []⟩ 8 (by kernel_rfl) (by kernel_rfl) (by kernel_rfl) (by kernel_rfl)) ?_
  intro W base args ds gs before hval0 hW hcnd _
  have hval : ∀ (j : Nat) t v, Yba.f3.params[j]? = some t → args[j]? = some v → Value.okWide Yba.prog W .any base t v := hval0
  have hW' := hW
  obtain ⟨p, q, hA0, hV, rfl, hfz, hnd⟩ := hW
  have hA : DataW.TrodAll enc Yba.prog W 0 (fun _ => true) true Yba.f3.params.toList args.toList ds p := hA0
  rw [Yba.params3] at hA hval
  obtain ⟨v0, vs0, d0, ds0, p0, q0, hargs, rfl, rfl, h0, r0⟩ := trodAll_cons hA
  obtain ⟨rfl, rfl, rfl⟩ := trodAll_nil r0
  obtain rfl : args = #[v0] := by cases args; simp_all
  obtain ⟨rfl, rfl⟩ := trodVars_none hV
  obtain ⟨a0, len, cap, rfl⟩ := okWide_slice Yba.underlying22 (hval 0 22 v0 rfl rfl)
  have lt0 : ∀ x ∈ p0, x.block < W.heap.size := by obtain ⟨m, hm⟩ := h0; exact DataW.trod_lt m _ _ _ hm
  obtain ⟨b, off, B, P, R, ha, hB, hP, hR, wB, wP⟩ := open_claims h0
  clear hA0 hval0
  have main : Calls Yba.prog 3 #[.slice a0 len cap] W fun e w' => e = .returned (.bool true) ∧ Below W.heap.size W w' := by
    by_cases hn : len ≤ 1048576
    · exact law_any a0 len cap b off B P R W hn ha hB hP hR wB wP
    · exact law_big a0 len cap W (by omega)
  refine main.mono fun e W' ⟨he, bel⟩ => ?_
  subst he
  exact ⟨_, rfl, _, _, _, [], _, [], hW', trodAll_mk1 (shut_bool Yba.underlying4 _), (trodAll_cons_mk (Below.trod Yba.laidOut (by kernel_rfl) (of_decide_eq_true (by kernel_rfl)) h0 bel lt0) trodAll_mk0), rfl, bel.frame _, fun h => by cases h⟩

theorem over : Rows.lawS6088CWholeRow.holds Yba.pinned (OpenSpec.ofChange Rows.lawS6088CWholeSpec) :=
  OpenClaim.holds_of_wide 3 Yba.f3 rfl rfl rfl rfl rfl rfl rfl ⟨rfl, rfl, rfl, rfl, rfl⟩ rfl rfl rfl rfl rfl (by kernel_rfl) Yba.func3 (by kernel_rfl)
    (of_decide_eq_true (by kernel_rfl)) (by unfold Func.isWrapper; first | (rw [if_pos (by decide +kernel)]; kernel_rfl) | (rw [if_neg (by decide +kernel)]; exact ⟨rfl, rfl⟩))
    (fun os started H enc _ => lifted os started H enc)

/-- THE STATEMENT. -/
theorem lawS6088C_proved : Rows.LawS6088CWholeSaid := over

end Go.Proofs.Ybulkdvbe

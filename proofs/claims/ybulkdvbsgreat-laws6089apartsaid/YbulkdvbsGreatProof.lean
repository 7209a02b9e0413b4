/-
  The frame of the row 'LawS6089APart' (after the guide's skeleton), its hole filled.
-/
import Derived.Test.YbulkdvbsGreatLaw
import Derived.Test.YbulkdvbsGreatHist
import Derived.Test.YbulkdvbsGreatSV
import Derived.Test.YbulkdvbsGreatRows
import Derived.WalkKit
import Derived.ProofKit
import Derived.OpenShut
import Derived.ShutString
import Derived.ChangeOld
import Derived.Below
import Derived.Deep.Slices
namespace Go.Proofs.YbulkdvbsGreat
open Go.RowKit
/-- The law, up to 2000 steps. -/
theorem law3_any (a0 : Option Addr) (m c0 b o : Nat) (X : Nat → Nat → Nat) (w : World) (hm : m ≤ 2000) (hX : ∀ i c, X i c ≤ 255) (ha : 0 < m → a0 = some ⟨b, o, none⟩) (hc : ∀ i c, i < m → c < 3 → w.cell? ⟨b, o + i * 3 + c, none⟩ = some (.int .u8 (X i c : Int))) (hb : 0 < m → b < w.heap.size) :
    Calls Ybaz.prog 3 #[.slice a0 m c0] w fun e w' => e = .returned (.bool true) ∧ Keep (fun _ => False) w w' :=
  law3_of (fun OB M oc kd tx ky w h => (hist_of sv_any OB M oc kd tx ky w h).mono fun _ _ h => h) a0 m c0 b o X w hm hX ha hc hb
set_option maxRecDepth 100000 in
set_option maxHeartbeats 1000000 in
/-- Too many steps: nothing is done. -/
theorem law3_big (a0 : Option Addr) (m c0 : Nat) (w : World) (h : ¬ m ≤ 2000) :
    Calls Ybaz.prog 3 #[.slice a0 m c0] w fun e w' => e = .returned (.bool true) ∧ Below w.heap.size w w' := by
  have m1 : (2000 : Int) < (m : Int) := by omega
  go_enter Ybaz.func3, Ybaz.ntmps3
  go_wp2
  go_ret
  exact ⟨rfl, Below.refl _ _⟩
end Go.Proofs.YbulkdvbsGreat
namespace Go.Proofs.YbulkdvbsGreat.lawS6089APart
open Go.ChangeShapes Go.WideShapes Go.ChangeAt Go.RowKit
open Go.ChangeMaps (open_string shut_string)
set_option linter.unusedVariables false

theorem own : ownKnob Ybaz.prog.godebug = none := by kernel_rfl
theorem laidOut : laidOutB Ybaz.prog = true := by kernel_rfl

/-- What the walk is told of the steps that came in. -/
def IsSteps (w : World) (a : Option Addr) (len cap : Nat) : Prop :=
  ∃ (b o : Nat) (X : Nat → Nat → Nat), (0 < len → a = some ⟨b, o, none⟩) ∧ (∀ i c, i < len → c < 3 → w.cell? ⟨b, o + i * 3 + c, none⟩ = some (.int .u8 (X i c : Int))) ∧ ∀ i c, X i c ≤ 255

section
variable {H : Type} {enc : TypeId × Value → H} {W : World}
theorem len3 {α : Type} : ∀ (l : List α), l.length = 3 → ∃ a b c, l = [a, b, c]
  | [a, b, c], _ => ⟨a, b, c, rfl⟩
set_option maxRecDepth 100000 in
theorem steps_of {a : Option Addr} {len cap : Nat} {x : DataW H × List MemPlace} {fuel : Nat}
    (hf : DataW.trod enc Ybaz.prog W 0 (fun _ => true) true fuel 22 (Value.cells (.slice a len cap)).toList = some x) : IsSteps W a len cap := by
  rcases Go.Deep.open_slice Ybaz.underlying22 hf with ⟨hcs, _⟩ | ⟨y, l, c, m, n, D, Pl, hcs, _, hl, hm, hmm, _, hx⟩
  · simp [Value.cells] at hcs
    obtain ⟨rfl, rfl, rfl⟩ := hcs
    exact ⟨0, 0, fun _ _ => 0, fun h => by omega, fun i c hi => by omega, fun _ _ => Nat.zero_le 255⟩
  · simp [Value.cells] at hcs
    obtain ⟨rfl, rfl, rfl⟩ := hcs
    simp at hmm
    subst hmm
    have ce : Ybaz.prog.cellsOf 45 = 3 := by kernel_rfl
    have each : ∀ i, i < m → ∃ q : Nat × Nat × Nat, W.cell? (y.add (i * 3)) = some (.int .u8 (q.1 : Int)) ∧ W.cell? (y.add (i * 3 + 1)) = some (.int .u8 (q.2.1 : Int)) ∧ W.cell? (y.add (i * 3 + 2)) = some (.int .u8 (q.2.2 : Int)) ∧ q.1 ≤ 255 ∧ q.2.1 ≤ 255 ∧ q.2.2 ≤ 255 := by
      intro i hi
      obtain ⟨cs', h1, h2⟩ := hx i hi
      rw [ce] at h1
      obtain ⟨_, hlen, hcell⟩ := World.cells?_some h1
      obtain ⟨xs, k, hk, hxy, _, hxl, hf⟩ := DataW.trod_struct Ybaz.underlying45 h2
      obtain ⟨y0, y1, y2, rfl⟩ := len3 xs hxl
      obtain ⟨v0, v1, v2, rfl⟩ := len3 cs' hlen
      have g0 := hf 0 _ rfl
      have g1 := hf 1 _ rfl
      have g2 := hf 2 _ rfl
      have c5 : Ybaz.prog.cellsOf 5 = 1 := by kernel_rfl
      simp [c5] at g0 g1 g2
      obtain ⟨n0, e0, _, w0⟩ := DataW.trod_int Ybaz.underlying5 g0
      obtain ⟨n1, e1, _, w1⟩ := DataW.trod_int Ybaz.underlying5 g1
      obtain ⟨n2, e2, _, w2⟩ := DataW.trod_int Ybaz.underlying5 g2
      simp at e0 e1 e2
      subst e0 e1 e2
      have k0 := hcell 0 (by omega)
      have k1 := hcell 1 (by omega)
      have k2 := hcell 2 (by omega)
      rw [Go.Deep.add_add] at k0 k1 k2
      have b0 := bounds_u8 w0
      have b1 := bounds_u8 w1
      have b2 := bounds_u8 w2
      have z0 : ((n0.toNat : Nat) : Int) = n0 := by omega
      have z1 : ((n1.toNat : Nat) : Int) = n1 := by omega
      have z2 : ((n2.toNat : Nat) : Int) = n2 := by omega
      exact ⟨(n0.toNat, n1.toNat, n2.toNat), by rw [z0]; simpa using k0, by rw [z1]; simpa using k1, by rw [z2]; simpa using k2, by show n0.toNat ≤ 255; omega, by show n1.toNat ≤ 255; omega, by show n2.toNat ≤ 255; omega⟩
    obtain ⟨q, hq⟩ := Go.Deep.choose_lt each
    obtain ⟨b, off, spot⟩ := y
    have hspot : 0 < len → spot = none := fun h => by
      have := World.cell?_spot (hq 0 (by omega)).1
      simpa [Addr.add] using this
    refine ⟨b, off, fun i c => if i < len then (if c = 0 then (q i).1 else if c = 1 then (q i).2.1 else (q i).2.2) else 0, fun h => by rw [hspot h], fun i c hi hc => ?_, fun i c => ?_⟩
    · obtain ⟨h0, h1, h2, _⟩ := hq i (by omega)
      rw [hspot (by omega), add_none] at h0 h1 h2
      match c, hc with
      | 0, _ => rw [Nat.add_zero, h0]; simp [hi]
      | 1, _ => rw [Nat.add_assoc, h1]; simp [hi]
      | 2, _ => rw [Nat.add_assoc, h2]; simp [hi]
    · show (if i < len then (if c = 0 then (q i).1 else if c = 1 then (q i).2.1 else (q i).2.2) else 0) ≤ 255
      split
      · rename_i h
        obtain ⟨_, _, _, b0, b1, b2⟩ := hq i (by omega)
        split
        · exact b0
        · split
          · exact b1
          · exact b2
      · omega
end

theorem walk (a0 : Option Addr) (m c0 : Nat) (w : World) (w0 : IsSteps w a0 m c0) :
    Calls Ybaz.prog 3 #[.slice a0 m c0] w fun e w' => e = .returned (.bool true) ∧ Below w.heap.size w w' := by
  by_cases h : m ≤ 2000
  · obtain ⟨b0, o0, X, ha0, hs0, hst⟩ := w0
    exact (law3_any a0 m c0 b0 o0 X w h hst ha0 hs0 (fun h0 => by have := hs0 0 0 h0 (by omega); exact cell_lt this)).mono fun e w' ⟨he, k⟩ => ⟨he, k.below (fun _ q => q.elim) (Nat.le_refl _)⟩
  · exact law3_big a0 m c0 w h

set_option maxRecDepth 100000 in
theorem lifted (os : Os) (started : os.Started) (H : Type) (enc : TypeId × Value → H) :
    ReturnsInHanded {} Ybaz.checked os 3 .any (Rows.lawS6089APartSpec.pre6 enc Ybaz.prog Ybaz.f3 Rows.lawS6089APartRow.domain false) (Rows.lawS6089APartSpec.post enc Ybaz.prog Ybaz.f3 false true false false) := by
  refine returnsInHanded_of_change (C := Ybaz.checked) own started (by kernel_rfl) Ybaz.func3
    (ChangeSpec.witness6 (enc := enc) (C := Ybaz.checked) false ⟨#[], #[.slice none 0 0], []⟩ 8 (by kernel_rfl) (by kernel_rfl) (by kernel_rfl) (by kernel_rfl)) ?_
  intro W base args ds gs before hval0 hW hcnd _
  have hval : ∀ (j : Nat) t v, Ybaz.f3.params[j]? = some t → args[j]? = some v → Value.okWide Ybaz.prog W .any base t v := hval0
  have hW' := hW
  obtain ⟨p, q, hA0, hV, rfl, hfz, hnd⟩ := hW
  have hA : DataW.TrodAll enc Ybaz.prog W 0 (fun _ => true) true Ybaz.f3.params.toList args.toList ds p := hA0
  rw [Ybaz.params3] at hA hval
  obtain ⟨v0, vs0, d0, ds0, p0, q0, hargs, rfl, rfl, h0, r0⟩ := trodAll_cons hA
  obtain ⟨rfl, rfl, rfl⟩ := trodAll_nil r0
  obtain rfl : args = #[v0] := by cases args; simp_all
  obtain ⟨rfl, rfl⟩ := trodVars_none hV
  obtain ⟨a0, len0, cap0, rfl⟩ := okWide_slice Ybaz.underlying22 (hval 0 22 v0 rfl rfl)
  have lt0 : ∀ x ∈ p0, x.block < W.heap.size := by obtain ⟨m, hm⟩ := h0; exact DataW.trod_lt m _ _ _ hm
  have w0 : IsSteps W a0 len0 cap0 := by obtain ⟨m, hm⟩ := h0; exact steps_of hm
  clear hA0 hval0
  refine (walk a0 len0 cap0 W w0).mono fun e W' ⟨he, bel⟩ => ?_
  subst he
  exact ⟨_, rfl, _, _, _, [], _, [], hW', trodAll_mk1 (shut_bool Ybaz.underlying4 _),
    (trodAll_cons_mk (Below.trod laidOut (by kernel_rfl) (of_decide_eq_true (by kernel_rfl)) h0 bel lt0) trodAll_mk0), rfl, bel.frame _, fun h => by cases h⟩

theorem over : Rows.lawS6089APartRow.holds Ybaz.pinned (OpenSpec.ofChange Rows.lawS6089APartSpec) :=
  OpenClaim.holds_of_wide 3 Ybaz.f3 rfl rfl rfl rfl rfl rfl rfl ⟨rfl, rfl, rfl, rfl, rfl⟩ rfl rfl rfl rfl rfl (by kernel_rfl) Ybaz.func3 (by kernel_rfl)
    (of_decide_eq_true (by kernel_rfl)) (by unfold Func.isWrapper; first | (rw [if_pos (by decide +kernel)]; kernel_rfl) | (rw [if_neg (by decide +kernel)]; exact ⟨rfl, rfl⟩))
    (fun os started H enc _ => lifted os started H enc)

/-- The statement. -/
theorem proved : Rows.LawS6089APartSaid := over
end Go.Proofs.YbulkdvbsGreat.lawS6089APart
namespace Go.Proofs.YbulkdvbsGreat
/-- THE STATEMENT. -/
theorem lawS6089A_proved : Rows.LawS6089APartSaid := lawS6089APart.proved
end Go.Proofs.YbulkdvbsGreat

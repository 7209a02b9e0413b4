/-
  The frame of the row 'LawS6090CWhole' (after the guide's skeleton), its hole filled.
-/
import Derived.Test.YbulkdvcgLaw
import Derived.Test.YbulkdvcgRows
import Derived.WalkKit
import Derived.ProofKit
import Derived.OpenShut
import Derived.ShutString
import Derived.ChangeOld
import Derived.Below
import Derived.Deep.Grids
namespace Go.Proofs.Ybulkdvcg
open Go.RowKit
set_option maxRecDepth 100000 in
set_option maxHeartbeats 1000000 in
/-- One of the slices is too long: nothing is done. -/
theorem law_big (a0 : Option Addr) (m c0 : Nat) (of tl : Int) (a3 : Option Addr) (cl c3 : Nat) (a4 : Option Addr) (cd c4 : Nat) (a5 : Option Addr) (ca c5 : Nat) (p : Int) (w : World)
    (h : ¬ (m ≤ 4096 ∧ cl ≤ 2097152 ∧ cd ≤ 2097152 ∧ ca ≤ 2097152)) :
    Calls Yba.prog 4 #[.slice a0 m c0, .int .u8 of, .int .u8 tl, .slice a3 cl c3, .slice a4 cd c4, .slice a5 ca c5, .int .i64 p] w fun e w' => e = .returned (.bool true) ∧ Below w.heap.size w w' := by
  by_cases h1 : m ≤ 4096
  · have m1 : ¬ (4096 : Int) < (m : Int) := by omega
    by_cases h2 : cl ≤ 2097152
    · have m2 : ¬ (2097152 : Int) < (cl : Int) := by omega
      by_cases h3 : cd ≤ 2097152
      · have m3 : ¬ (2097152 : Int) < (cd : Int) := by omega
        have m4 : (2097152 : Int) < (ca : Int) := by omega
        go_enter Yba.func4, Yba.ntmps4
        go_wp2
        go_ret
        exact ⟨rfl, Below.refl _ _⟩
      · have m3 : (2097152 : Int) < (cd : Int) := by omega
        go_enter Yba.func4, Yba.ntmps4
        go_wp2
        go_ret
        exact ⟨rfl, Below.refl _ _⟩
    · have m2 : (2097152 : Int) < (cl : Int) := by omega
      go_enter Yba.func4, Yba.ntmps4
      go_wp2
      go_ret
      exact ⟨rfl, Below.refl _ _⟩
  · have m1 : (4096 : Int) < (m : Int) := by omega
    go_enter Yba.func4, Yba.ntmps4
    go_wp2
    go_ret
    exact ⟨rfl, Below.refl _ _⟩
end Go.Proofs.Ybulkdvcg
namespace Go.Proofs.Ybulkdvcg.lawS6090CWhole
open Go.ChangeShapes Go.WideShapes Go.ChangeAt Go.RowKit
open Go.ChangeMaps (open_string shut_string)
set_option linter.unusedVariables false

theorem own : ownKnob Yba.prog.godebug = none := by kernel_rfl
theorem laidOut : laidOutB Yba.prog = true := by kernel_rfl

/-- What the walk is told of a slice of integers that came in. -/
def IsRow (k : IntKind) (w : World) (a : Option Addr) (len : Nat) : Prop :=
  ∃ (b o : Nat) (f : Nat → Int), (0 < len → a = some ⟨b, o, none⟩) ∧ (∀ j, j < len → w.cell? ⟨b, o + j, none⟩ = some (.int k (f j))) ∧ ∀ j, f j = 0 ∨ (Lit.int k (f j)).wf = true
/-- What the walk is told of a slice of bools that came in. -/
def IsBools (w : World) (a : Option Addr) (len : Nat) : Prop :=
  ∃ (b o : Nat) (f : Nat → Bool), (0 < len → a = some ⟨b, o, none⟩) ∧ ∀ j, j < len → w.cell? ⟨b, o + j, none⟩ = some (.bool (f j))

section
variable {H : Type} {enc : TypeId × Value → H} {W : World}
theorem row_of {t e : TypeId} {k : IntKind} {a : Option Addr} {len cap : Nat} {x : DataW H × List MemPlace} {fuel : Nat} (ht : Yba.prog.underlying t = some (.slice e)) (he : Yba.prog.underlying e = some (.int k)) (hc : Yba.prog.cellsOf e = 1)
    (hf : DataW.trod enc Yba.prog W 0 (fun _ => true) true fuel t (Value.cells (.slice a len cap)).toList = some x) : IsRow k W a len := by
  rcases open_ints ht he hc hf with ⟨hcs, _⟩ | ⟨y, l, c, zs, hcs, _, hl, hm, hz, _, hcell, hwz⟩
  · simp [Value.cells] at hcs
    obtain ⟨rfl, rfl, rfl⟩ := hcs
    exact ⟨0, 0, fun _ => 0, fun h => by omega, fun j hj => by omega, fun _ => .inl rfl⟩
  · simp [Value.cells] at hcs
    obtain ⟨rfl, rfl, rfl⟩ := hcs
    have hz' : zs.length = cap := by simpa using hz
    obtain ⟨b, off, spot⟩ := y
    have hspot : 0 < len → spot = none := fun h => by
      have := World.cell?_spot (hcell 0 (by omega))
      simpa [Addr.add] using this
    refine ⟨b, off, fun j => zs.getD j 0, fun h => by rw [hspot h], fun j hj => ?_, fun j => ?_⟩
    · have hc2 := hcell j (by omega)
      rw [hspot (by omega), add_none] at hc2
      exact hc2
    · by_cases hj : j < zs.length
      · have e2 : zs.getD j 0 = zs[j] := by simp [hj]
        show zs.getD j 0 = 0 ∨ (Lit.int k (zs.getD j 0)).wf = true
        rw [e2]; exact .inr (hwz _ (List.getElem_mem hj))
      · left; simp [hj]
theorem bools_of {t e : TypeId} {a : Option Addr} {len cap : Nat} {x : DataW H × List MemPlace} {fuel : Nat} (ht : Yba.prog.underlying t = some (.slice e)) (he : Yba.prog.underlying e = some .bool) (hc : Yba.prog.cellsOf e = 1)
    (hf : DataW.trod enc Yba.prog W 0 (fun _ => true) true fuel t (Value.cells (.slice a len cap)).toList = some x) : IsBools W a len := by
  rcases Go.Deep.open_bools ht he hc hf with ⟨hcs, _⟩ | ⟨y, l, c, B, hcs, _, hl, hm, _, hcell⟩
  · simp [Value.cells] at hcs
    obtain ⟨rfl, rfl, rfl⟩ := hcs
    exact ⟨0, 0, fun _ => false, fun h => by omega, fun j hj => by omega⟩
  · simp [Value.cells] at hcs
    obtain ⟨rfl, rfl, rfl⟩ := hcs
    obtain ⟨b, off, spot⟩ := y
    have hspot : 0 < len → spot = none := fun h => by
      have := World.cell?_spot (hcell 0 (by omega))
      simpa [Addr.add] using this
    refine ⟨b, off, B, fun h => by rw [hspot h], fun j hj => ?_⟩
    have hc2 := hcell j (by omega)
    rw [hspot (by omega), add_none] at hc2
    exact hc2
end

theorem walk (a0 : Option Addr) (m c0 : Nat) (of tl : Int) (a3 : Option Addr) (cl c3 : Nat) (a4 : Option Addr) (cd c4 : Nat) (a5 : Option Addr) (ca c5 : Nat) (p : Int) (w : World) (w0 : IsRow .u16 w a0 m) (w1 : (Lit.int .u8 of).wf = true) (w2 : (Lit.int .u8 tl).wf = true) (w3 : IsRow .i32 w a3 cl) (w4 : IsBools w a4 cd) (w5 : IsBools w a5 ca) :
    Calls Yba.prog 4 #[.slice a0 m c0, .int .u8 of, .int .u8 tl, .slice a3 cl c3, .slice a4 cd c4, .slice a5 ca c5, .int .i64 p] w fun e w' => e = .returned (.bool true) ∧ Below w.heap.size w w' := by
  by_cases h : m ≤ 4096 ∧ cl ≤ 2097152 ∧ cd ≤ 2097152 ∧ ca ≤ 2097152
  · obtain ⟨h1, h2, h3, h4⟩ := h
    obtain ⟨b0, o0, f, ha0, hs0, hw0⟩ := w0
    obtain ⟨b3, o3, f3, ha3, hs3, hw3⟩ := w3
    obtain ⟨b4, o4, f4, ha4, hs4⟩ := w4
    obtain ⟨b5, o5, f5, ha5, hs5⟩ := w5
    have n1 := bounds_u8 w1
    have n2 := bounds_u8 w2
    have hf : ∀ j, 0 ≤ f j ∧ f j ≤ 65535 := fun j => by
      rcases hw0 j with h | h
      · omega
      · exact bounds_u16 h
    obtain ⟨of', rfl⟩ : ∃ k : Nat, of = (k : Int) := ⟨of.toNat, by omega⟩
    obtain ⟨tl', rfl⟩ : ∃ k : Nat, tl = (k : Int) := ⟨tl.toNat, by omega⟩
    exact law_any a0 m c0 b0 o0 (fun j => (f j).toNat) of' tl' a3 cl c3 b3 o3 f3 a4 cd c4 b4 o4 f4 a5 ca c5 b5 o5 f5 p w h1 h2 h3 h4 (by omega) (by omega) ha0 (fun j hj => by rw [hs0 j hj, show (((f j).toNat : Nat) : Int) = f j by have := hf j; omega]) (fun j => by have := hf j; show (f j).toNat ≤ 65535; omega) ha3 hs3 ha4 hs4 ha5 hs5
  · exact law_big a0 m c0 of tl a3 cl c3 a4 cd c4 a5 ca c5 p w h

set_option maxRecDepth 100000 in
theorem lifted (os : Os) (started : os.Started) (H : Type) (enc : TypeId × Value → H) :
    ReturnsInHanded {} Yba.checked os 4 .any (Rows.lawS6090CWholeSpec.pre6 enc Yba.prog Yba.f4 Rows.lawS6090CWholeRow.domain false) (Rows.lawS6090CWholeSpec.post enc Yba.prog Yba.f4 false true false false) := by
  refine returnsInHanded_of_change (C := Yba.checked) own started (by kernel_rfl) Yba.func4
    (ChangeSpec.witness6 (enc := enc) (C := Yba.checked) false ⟨#[], #[.slice none 0 0, .int .u8 0, .int .u8 0, .slice none 0 0, .slice none 0 0, .slice none 0 0, .int .i64 0], []⟩ 8 (by kernel_rfl) (by kernel_rfl) (by kernel_rfl) (by kernel_rfl)) ?_
  intro W base args ds gs before hval0 hW hcnd _
  have hval : ∀ (j : Nat) t v, Yba.f4.params[j]? = some t → args[j]? = some v → Value.okWide Yba.prog W .any base t v := hval0
  have hW' := hW
  obtain ⟨p, q, hA0, hV, rfl, hfz, hnd⟩ := hW
  have hA : DataW.TrodAll enc Yba.prog W 0 (fun _ => true) true Yba.f4.params.toList args.toList ds p := hA0
  rw [Yba.params4] at hA hval
  obtain ⟨v0, vs0, d0, ds0, p0, q0, hargs, rfl, rfl, h0, r0⟩ := trodAll_cons hA
  obtain ⟨v1, vs1, d1, ds1, p1, q1, rfl, rfl, rfl, h1, r1⟩ := trodAll_cons r0
  obtain ⟨v2, vs2, d2, ds2, p2, q2, rfl, rfl, rfl, h2, r2⟩ := trodAll_cons r1
  obtain ⟨v3, vs3, d3, ds3, p3, q3, rfl, rfl, rfl, h3, r3⟩ := trodAll_cons r2
  obtain ⟨v4, vs4, d4, ds4, p4, q4, rfl, rfl, rfl, h4, r4⟩ := trodAll_cons r3
  obtain ⟨v5, vs5, d5, ds5, p5, q5, rfl, rfl, rfl, h5, r5⟩ := trodAll_cons r4
  obtain ⟨v6, vs6, d6, ds6, p6, q6, rfl, rfl, rfl, h6, r6⟩ := trodAll_cons r5
  obtain ⟨rfl, rfl, rfl⟩ := trodAll_nil r6
  obtain rfl : args = #[v0, v1, v2, v3, v4, v5, v6] := by cases args; simp_all
  obtain ⟨rfl, rfl⟩ := trodVars_none hV
  obtain ⟨a0, len0, cap0, rfl⟩ := okWide_slice Yba.underlying84 (hval 0 84 v0 rfl rfl)
  obtain ⟨a1, rfl, rfl, rfl, w1⟩ := open_int Yba.underlying5 (hval 1 5 v1 rfl rfl) h1
  obtain ⟨a2, rfl, rfl, rfl, w2⟩ := open_int Yba.underlying5 (hval 2 5 v2 rfl rfl) h2
  obtain ⟨a3, len3, cap3, rfl⟩ := okWide_slice Yba.underlying37 (hval 3 37 v3 rfl rfl)
  obtain ⟨a4, len4, cap4, rfl⟩ := okWide_slice Yba.underlying85 (hval 4 85 v4 rfl rfl)
  obtain ⟨a5, len5, cap5, rfl⟩ := okWide_slice Yba.underlying85 (hval 5 85 v5 rfl rfl)
  obtain ⟨a6, rfl, rfl, rfl, w6⟩ := open_int Yba.underlying3 (hval 6 3 v6 rfl rfl) h6
  have lt0 : ∀ x ∈ p0, x.block < W.heap.size := by obtain ⟨m, hm⟩ := h0; exact DataW.trod_lt m _ _ _ hm
  have lt3 : ∀ x ∈ p3, x.block < W.heap.size := by obtain ⟨m, hm⟩ := h3; exact DataW.trod_lt m _ _ _ hm
  have lt4 : ∀ x ∈ p4, x.block < W.heap.size := by obtain ⟨m, hm⟩ := h4; exact DataW.trod_lt m _ _ _ hm
  have lt5 : ∀ x ∈ p5, x.block < W.heap.size := by obtain ⟨m, hm⟩ := h5; exact DataW.trod_lt m _ _ _ hm
  have w0 : IsRow .u16 W a0 len0 := by obtain ⟨m, hm⟩ := h0; exact row_of Yba.underlying84 Yba.underlying23 (by kernel_rfl) hm
  have w3 : IsRow .i32 W a3 len3 := by obtain ⟨m, hm⟩ := h3; exact row_of Yba.underlying37 Yba.underlying21 (by kernel_rfl) hm
  have w4 : IsBools W a4 len4 := by obtain ⟨m, hm⟩ := h4; exact bools_of Yba.underlying85 Yba.underlying4 (by kernel_rfl) hm
  have w5 : IsBools W a5 len5 := by obtain ⟨m, hm⟩ := h5; exact bools_of Yba.underlying85 Yba.underlying4 (by kernel_rfl) hm
  clear hA0 hval0
  refine (walk a0 len0 cap0 a1 a2 a3 len3 cap3 a4 len4 cap4 a5 len5 cap5 a6 W w0 w1 w2 w3 w4 w5).mono fun e W' ⟨he, bel⟩ => ?_
  subst he
  exact ⟨_, rfl, _, _, _, [], _, [], hW', trodAll_mk1 (shut_bool Yba.underlying4 _),
    (trodAll_cons_mk (Below.trod laidOut (by kernel_rfl) (of_decide_eq_true (by kernel_rfl)) h0 bel lt0) (trodAll_cons_mk (shut_int Yba.underlying5 w1) (trodAll_cons_mk (shut_int Yba.underlying5 w2) (trodAll_cons_mk (Below.trod laidOut (by kernel_rfl) (of_decide_eq_true (by kernel_rfl)) h3 bel lt3)
      (trodAll_cons_mk (Below.trod laidOut (by kernel_rfl) (of_decide_eq_true (by kernel_rfl)) h4 bel lt4) (trodAll_cons_mk (Below.trod laidOut (by kernel_rfl) (of_decide_eq_true (by kernel_rfl)) h5 bel lt5) (trodAll_cons_mk (shut_int Yba.underlying3 w6) trodAll_mk0))))))), rfl, bel.frame _, fun h => by cases h⟩

theorem over : Rows.lawS6090CWholeRow.holds Yba.pinned (OpenSpec.ofChange Rows.lawS6090CWholeSpec) :=
  OpenClaim.holds_of_wide 4 Yba.f4 rfl rfl rfl rfl rfl rfl rfl ⟨rfl, rfl, rfl, rfl, rfl⟩ rfl rfl rfl rfl rfl (by kernel_rfl) Yba.func4 (by kernel_rfl)
    (of_decide_eq_true (by kernel_rfl)) (by unfold Func.isWrapper; first | (rw [if_pos (by decide +kernel)]; kernel_rfl) | (rw [if_neg (by decide +kernel)]; exact ⟨rfl, rfl⟩))
    (fun os started H enc _ => lifted os started H enc)

/-- The statement. -/
theorem proved : Rows.LawS6090CWholeSaid := over
end Go.Proofs.Ybulkdvcg.lawS6090CWhole
namespace Go.Proofs.Ybulkdvcg
/-- THE STATEMENT. -/
theorem lawS6090C_proved : Rows.LawS6090CWholeSaid := lawS6090CWhole.proved
end Go.Proofs.Ybulkdvcg

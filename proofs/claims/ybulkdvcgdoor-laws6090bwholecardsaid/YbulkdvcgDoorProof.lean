import Derived.Test.YbulkdvcgDoorLaw
import Derived.Test.YbulkdvcgDoorTie
import Derived.Test.YbulkdvcgDoorCards
import Derived.ProofKit
import Derived.LaidMore
import Derived.OpenShut
import Derived.OpenVars
import Derived.Stop.Joined
import Derived.SevenTiedAt
import Derived.Deep.Slices
import Derived.Deep.Strs
namespace Go.Proofs.YbulkdvcgDoor
open Go.ChangeShapes Go.WideShapes Go.ChangeAt Go.RowKit

theorem own : ownKnob Ybad.prog.godebug = none := by kernel_rfl
theorem laidOut : laidOutB Ybad.prog = true := by kernel_rfl
theorem gKinds : Ybad.prog.globalNamed (Rows.lawS6090BWholeRow.named.headD "") = some 0 := by kernel_rfl
theorem tKinds : (Ybad.prog.globals[0]?).map (·.type) = some 39 := by kernel_rfl
theorem cells35 : Ybad.prog.cellsOf 35 = 4 := by kernel_rfl
theorem cells39 : Ybad.prog.cellsOf 39 = 36 := by kernel_rfl
theorem cells25 : Ybad.prog.cellsOf 25 = 3 := by kernel_rfl
theorem cells9 : Ybad.prog.cellsOf 9 = 1 := by kernel_rfl
theorem cells2 : Ybad.prog.cellsOf 2 = 1 := by kernel_rfl

/-- One kind's row of the table. -/
theorem open_kind {H : Type} {enc : TypeId × Value → H} {w : World} {base : Nat} {spare : Nat → Bool} {held : Bool} {n : Nat} {cs : List Value} {x : DataW H × List MemPlace}
    (h : DataW.trod enc Ybad.prog w base spare held n 35 cs = some x) : ∃ (l : Int) (s : ByteArray) (f : Int) (r : Bool), cs = [.int .u8 l, .string s, .int .u8 f, .bool r] ∧ x.1 = .agg [.lit (.int .u8 l), .lit (.string s.data.toList), .lit (.int .u8 f), .lit (.bool r)] := by
  obtain ⟨xs, m, _, rfl, hl, hlen, hf⟩ := DataW.trod_struct Ybad.underlying35 h
  rw [cells35] at hl
  have e0 : Ybad.prog.cellsOf 5 = 1 := by kernel_rfl
  have e1 : Ybad.prog.cellsOf 33 = 1 := by kernel_rfl
  have e2 : Ybad.prog.cellsOf 4 = 1 := by kernel_rfl
  match cs, hl, xs, hlen with
  | [c0, c1, c2, c3], _, [x0, x1, x2, x3], _ =>
    have h0 : DataW.trod enc Ybad.prog w base spare held m 5 (([c0, c1, c2, c3].drop 0).take (Ybad.prog.cellsOf 5)) = some x0 := hf 0 _ rfl
    have h1 : DataW.trod enc Ybad.prog w base spare held m 9 (([c0, c1, c2, c3].drop 1).take (Ybad.prog.cellsOf 9)) = some x1 := hf 1 _ rfl
    have h2 : DataW.trod enc Ybad.prog w base spare held m 33 (([c0, c1, c2, c3].drop 2).take (Ybad.prog.cellsOf 33)) = some x2 := hf 2 _ rfl
    have h3 : DataW.trod enc Ybad.prog w base spare held m 4 (([c0, c1, c2, c3].drop 3).take (Ybad.prog.cellsOf 4)) = some x3 := hf 3 _ rfl
    rw [e0] at h0
    rw [cells9] at h1
    rw [e1] at h2
    rw [e2] at h3
    obtain ⟨l, a0, b0, _⟩ := DataW.trod_int Ybad.underlying5 h0
    obtain ⟨s, a1, b1, _⟩ := DataW.trod_string Ybad.underlying9 h1
    obtain ⟨f, a2, b2, _⟩ := DataW.trod_int Ybad.underlying33 h2
    obtain ⟨r, a3, b3⟩ := DataW.trod_bool Ybad.underlying4 h3
    simp at a0 a1 a2 a3
    subst a0 a1 a2 a3 b0 b1 b2 b3
    exact ⟨l, s, f, r, rfl, rfl⟩

theorem tab_of {W : World} (h : laidMetH Ybad.prog Rows.lawS6090BWholeRow.laid W) : ∃ lt nm, Tab W lt nm := by
  rw [MakeChecks.laidMetH_plain _ _ _ (by kernel_rfl)] at h
  obtain ⟨ps, ⟨g0, t0, cs0, f0, p0, q0, hg0, ht0, hv0, hd0, _⟩, _, _⟩ := h
  obtain rfl := Option.some.inj (gKinds.symm.trans hg0)
  obtain rfl := Option.some.inj (tKinds.symm.trans ht0)
  obtain ⟨xs, m, _, hx, hl, hlen, hf⟩ := DataW.trod_array Ybad.underlying39 hd0
  rw [cells39] at hl
  simp only [cells35] at hf
  have key : ∀ k, k < 9 → ∃ t : Int × ByteArray, W.cell? ⟨0, k * 4, none⟩ = some (.int .u8 t.1) ∧ W.cell? ⟨0, k * 4 + 1, none⟩ = some (.string t.2) ∧ W.cell? ⟨0, k * 4 + 2, none⟩ = some (.int .u8 (fm k)) ∧ W.cell? ⟨0, k * 4 + 3, none⟩ = some (.bool (wr k)) := fun k hk => by
    have hk2 := hf k hk
    rw [List.getElem?_eq_getElem (by omega)] at hk2
    obtain ⟨l, s, f, r, hc, hd⟩ := open_kind hk2
    have hcell : ∀ i, i < 4 → W.cell? ⟨0, k * 4 + i, none⟩ = ([.int .u8 l, .string s, .int .u8 f, .bool r] : List Value)[i]? := fun i hi => by
      have := World.var?_cell hg0 hv0 (k * 4 + i)
      rw [this, ← hc, List.getElem?_take, if_pos hi, List.getElem?_drop, Array.getElem?_toList]
    have hdat : (xs.map (·.1))[k]? = some (.agg [.lit (.int .u8 l), .lit (.string s.data.toList), .lit (.int .u8 f), .lit (.bool r)]) := by
      rw [List.getElem?_map, List.getElem?_eq_getElem (by omega), ← hd]; rfl
    have hxs : DataW.agg (xs.map (·.1)) = Rows.laid_example_com_arcorder_arcorder_kinds := by
      have := congrArg Prod.fst hx; exact this.symm
    unfold Rows.laid_example_com_arcorder_arcorder_kinds at hxs
    simp only [DataW.agg.injEq] at hxs
    rw [hxs] at hdat
    have hfr : f = fm k ∧ r = wr k := by
      have : k = 0 ∨ k = 1 ∨ k = 2 ∨ k = 3 ∨ k = 4 ∨ k = 5 ∨ k = 6 ∨ k = 7 ∨ k = 8 := by omega
      rcases this with rfl | rfl | rfl | rfl | rfl | rfl | rfl | rfl | rfl <;> (simp at hdat; obtain ⟨_, _, h3, h4⟩ := hdat; subst h3 h4; exact ⟨rfl, rfl⟩)
    obtain ⟨rfl, rfl⟩ := hfr
    exact ⟨(l, s), by simpa using hcell 0 (by omega), by simpa using hcell 1 (by omega), by simpa using hcell 2 (by omega), by simpa using hcell 3 (by omega)⟩
  obtain ⟨t, ht⟩ := Deep.choose_lt key
  exact ⟨fun k => (t k).1, fun k => (t k).2, fun k hk => (ht k hk).1, fun k hk => (ht k hk).2.1, fun k hk => (ht k hk).2.2.1, fun k hk => (ht k hk).2.2.2⟩

/-- What is read of one interval. -/
theorem open_iv {H : Type} {enc : TypeId × Value → H} {w : World} {base : Nat} {spare : Nat → Bool} {held : Bool} {n : Nat} {cs : List Value} {x : DataW H × List MemPlace}
    (h : DataW.trod enc Ybad.prog w base spare held n 25 cs = some x) : ∃ (s : ByteArray) (a b : Int), cs = [.string s, .int .i64 a, .int .i64 b] := by
  obtain ⟨y0, y1, y2, m, _, hl, h0, h1, h2⟩ := Deep.trod_struct3 Ybad.underlying25 h
  rw [cells25] at hl
  match cs, hl with
  | [c0, c1, c2], _ =>
    simp only [cells9, cells2] at h0 h1 h2
    obtain ⟨s, e0, _, _⟩ := DataW.trod_string Ybad.underlying9 h0
    obtain ⟨a, e1, _, _⟩ := DataW.trod_int Ybad.underlying2 h1
    obtain ⟨b, e2, _, _⟩ := DataW.trod_int Ybad.underlying2 h2
    simp at e0 e1 e2
    subst e0 e1 e2
    exact ⟨s, a, b, rfl⟩

theorem open_ivs {H : Type} {enc : TypeId × Value → H} {w : World} {a0 : Option Addr} {len cap : Nat} {d : DataW H} {ps : List MemPlace}
    (h : DataW.Trod enc Ybad.prog w 0 (fun _ => true) true 22 (.slice a0 len cap) d ps) :
    (a0 = none ∧ len = 0 ∧ cap = 0) ∨ ∃ (ad : Addr) (b off : Nat) (S : Nat → ByteArray) (mn mx : Nat → Int), a0 = some ad ∧ Ivs w (some ad) len b off S mn mx := by
  obtain ⟨fuel, hf⟩ := h
  rcases Deep.open_slice Ybad.underlying22 hf with ⟨hcs, _⟩ | ⟨a, len', cap', m, n, D, Pl, hcs, _, hl, _, hm, _, hel⟩
  · simp [Value.cells] at hcs
    exact .inl hcs
  · simp [Value.cells] at hcs
    obtain ⟨rfl, rfl, rfl⟩ := hcs
    simp only [if_true] at hm
    subst hm
    have he : ∀ i, i < len → ∃ t : ByteArray × Int × Int, w.cell? (a.add (i * 3)) = some (.string t.1) ∧ w.cell? ((a.add (i * 3)).add 1) = some (.int .i64 t.2.1) ∧ w.cell? ((a.add (i * 3)).add 2) = some (.int .i64 t.2.2) := fun i hi => by
      obtain ⟨cs', hc, ht⟩ := hel i (by omega)
      rw [cells25] at hc
      obtain ⟨s, x, y, rfl⟩ := open_iv ht
      have hs := (World.cells?_some hc).2.2
      exact ⟨(s, x, y), by simpa [Addr.add_zero'] using hs 0 (by omega), by simpa using hs 1 (by omega), by simpa using hs 2 (by omega)⟩
    obtain ⟨f, hf2⟩ := Deep.choose_lt he
    obtain ⟨b, off, spot⟩ := a
    have hspot : 0 < len → spot = none := fun h => by
      have := World.cell?_spot (hf2 0 h).1
      simpa [Addr.add] using this
    have am : ∀ (b o j : Nat), (⟨b, o, none⟩ : Addr).add j = ⟨b, o + j, none⟩ := fun b o j => by unfold Addr.add; split <;> simp_all
    have e0 : ∀ j, j < len → (⟨b, off, spot⟩ : Addr).add (j * 3) = ⟨b, off + j * 3, none⟩ := fun j hj => by
      rw [hspot (by omega)]; exact am b off (j * 3)
    refine .inr ⟨⟨b, off, spot⟩, b, off, fun j => (f j).1, fun j => (f j).2.1, fun j => (f j).2.2, rfl, fun h => by rw [hspot h], fun j hj => ?_, fun j hj => ?_, fun j hj => ?_⟩
    · have := (hf2 j hj).1; rwa [e0 j hj] at this
    · have := (hf2 j hj).2.1; rwa [e0 j hj, am] at this
    · have := (hf2 j hj).2.2; rwa [e0 j hj, am] at this

/-- The door's own heap meets the condition. -/
theorem door_met (os : Os) (args : Array Value) : laidMetH Ybad.prog Rows.lawS6090BWholeRow.laid ((World.doorLaid Ybad.prog 22 os).forCall (fun _ _ => 0) ⟨#[], args, []⟩).memory :=
  laidMetH_of_parts3 (fuel := 8) (laidMet_of_run' 8 (by kernel_rfl) (by kernel_rfl)) (by kernel_rfl) (by kernel_rfl)

set_option maxRecDepth 100000 in
theorem lifted (os : Os) (started : os.Started) (H : Type) (enc : TypeId × Value → H) :
    ReturnsInHanded {} Ybad.checked os 3 .any (fun w args => (Rows.lawS6090BWholeSpec.pre enc Ybad.prog Ybad.f3 [] false w args ∧ laidMetH Ybad.prog Rows.lawS6090BWholeRow.laid w) ∧ sizedMet enc Ybad.prog Ybad.f3 (OpenSpec.ofChange Rows.lawS6090BWholeSpec) false w args)
      (Rows.lawS6090BWholeSpec.post enc Ybad.prog Ybad.f3 false true false false) := by
  refine returnsInHanded_of_change_and (C := Ybad.checked) (X := fun w _ => laidMetH Ybad.prog Rows.lawS6090BWholeRow.laid w) (fun _ _ _ hh h => h.of_heap hh) own started (by kernel_rfl) Ybad.func3
    (ChangeSpec.witness_shaped (enc := enc) (C := Ybad.checked) (os := os) (X := fun w _ => laidMetH Ybad.prog Rows.lawS6090BWholeRow.laid w) false (World.doorLaid Ybad.prog 22 os) #[.int .u8 0, .slice none 0 0] 8 rfl (World.shaped_of_RefB (by kernel_rfl) (by kernel_rfl)) (by kernel_rfl) (by kernel_rfl) (by kernel_rfl) (door_met os _)) ?_
  intro W base args ds gs before hval0 hW _ _ hL _
  have hval : ∀ (j : Nat) t v, Ybad.f3.params[j]? = some t → args[j]? = some v → Value.okWide Ybad.prog W .any base t v := hval0
  have hW' := hW
  obtain ⟨p, q, hA0, hV, rfl, hfz, hnd⟩ := hW
  have hA : DataW.TrodAll enc Ybad.prog W 0 (fun _ => true) true Ybad.f3.params.toList args.toList ds p := hA0
  rw [Ybad.params3] at hA hval
  obtain ⟨v0, vs0, d0, ds0, p0, q0, hargs, rfl, rfl, h0, r0⟩ := trodAll_cons hA
  obtain ⟨v1, vs1, d1, ds1, p1, q1, rfl, rfl, rfl, h1, r1⟩ := trodAll_cons r0
  obtain ⟨rfl, rfl, rfl⟩ := trodAll_nil r1
  obtain rfl : args = #[v0, v1] := by cases args; simp_all
  obtain ⟨kd, rfl, rfl, rfl, w0⟩ := open_int Ybad.underlying5 (hval 0 5 v0 rfl rfl) h0
  obtain ⟨a0, len, cap, rfl⟩ := okWide_slice Ybad.underlying22 (hval 1 22 v1 rfl rfl)
  have k1 := h1
  have lt1 : ∀ x ∈ p1, x.block < W.heap.size := by obtain ⟨m, hm⟩ := k1; exact DataW.trod_lt m _ _ _ hm
  obtain ⟨lt, nm, hT⟩ := tab_of hL
  obtain ⟨kb0, kb1⟩ := bounds_u8 w0
  obtain ⟨k, rfl⟩ : ∃ k : Nat, kd = (k : Int) := ⟨kd.toNat, by omega⟩
  have main : Calls Ybad.prog 3 #[.int .u8 (k : Int), .slice a0 len cap] W fun e w' => e = .returned (.bool true) ∧ Below W.heap.size W w' := by
    rcases open_ivs h1 with ⟨rfl, rfl, rfl⟩ | ⟨ad, b, off, S, mn, mx, rfl, hI⟩
    · exact law_nil lt nm k (by omega) W hT
    · by_cases hn : len ≤ 1048576
      · exact law_some lt nm k (by omega) ad len cap b off S mn mx hn W hT hI
      · exact law_big k (some ad) len cap W (by omega)
  clear hA0 hval0
  obtain ⟨gd, rfl⟩ : ∃ gd, gs = [gd] := by obtain ⟨_, _, _, _, d, _, rfl, _⟩ := trodVars_one hV; exact ⟨d, rfl⟩
  refine main.mono fun e W' ⟨he, bel⟩ => ?_
  subst he
  exact ⟨_, rfl, _, _, _, [], _, _, hW', trodAll_mk1 (shut_bool Ybad.underlying4 _), (trodAll_cons_mk (shut_int Ybad.underlying5 w0) (trodAll_cons_mk (Below.trod laidOut (by kernel_rfl) (of_decide_eq_true (by kernel_rfl)) k1 bel lt1) trodAll_mk0)), Below.trodVars laidOut bel (by kernel_rfl) hV, bel.frame _, fun h => by cases h⟩

theorem row_holds : Rows.LawS6090BWholeSaid :=
  OpenClaim.holds_of_wide 3 Ybad.f3 rfl rfl rfl rfl rfl rfl rfl ⟨rfl, rfl, rfl, rfl, rfl⟩ rfl rfl rfl rfl rfl (by kernel_rfl) Ybad.func3 (by kernel_rfl)
    (of_decide_eq_true (by kernel_rfl)) (by unfold Func.isWrapper; first | (rw [if_pos (by decide +kernel)]; kernel_rfl) | (rw [if_neg (by decide +kernel)]; exact ⟨rfl, rfl⟩))
    (fun os started H enc _ => lifted os started H enc)

/-- THE STATEMENT: the tied card. -/
theorem lawS6090B_card : Rows.LawS6090BWholeCardSaid :=
  Claim7.holds_tied_plain_at .later [] [.data] true (true, "d4d7b4d095bbdcadfb9acb2cc0613d24634ec39089274efc48b2805646519bbd") false
    row_holds (fun _ h => by cases h) (by kernel_rfl) (fun _ h => by cases h) lawS6090BWhole_row_tie rfl ⟨rfl, rfl⟩ (by kernel_rfl) rfl
    (fun f fn hf hfn => by
      obtain rfl : f = 3 := Option.some.inj ((show Ybad.prog.funcNamed Rows.lawS6090BWholeRow.func = some 3 by kernel_rfl).symm.trans hf) |>.symm
      obtain rfl : fn = Ybad.f3 := (Option.some.inj (Ybad.func3.symm.trans hfn)).symm
      exact ⟨by kernel_rfl, fun j t ht => by
        rw [Ybad.params3] at ht
        have hm : t ∈ [5, 22] := by simpa using Array.mem_of_getElem? ht
        have hall : ([5, 22].all fun u => !Ybad.prog.wantsStandIn u) = true := by kernel_rfl
        exact (show Ybad.prog.wantsStandIn t = false by simpa using List.all_eq_true.1 hall t hm)⟩)
    (by kernel_rfl)

end Go.Proofs.YbulkdvcgDoor

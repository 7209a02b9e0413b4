import Derived.Test.YbulkdvcuDoorWalk
import Derived.Test.YbulkdvcuDoorTie
import Derived.Test.YbulkdvcuDoorCards
import Derived.ProofKit
import Derived.LaidMore
import Derived.OpenShut
import Derived.OpenVars
import Derived.ShutString
import Derived.Stop.Joined
import Derived.SevenTiedAt
import Derived.SizedLaws
import Derived.Deep.Slices
import Derived.Deep.Strs
namespace Go.Proofs.YbulkdvcuDoor
open Go.ChangeShapes Go.WideShapes Go.ChangeAt Go.RowKit
open Go.ChangeMaps (open_string shut_string)

theorem own : ownKnob Ybad.prog.godebug = none := by kernel_rfl
theorem laidOut : laidOutB Ybad.prog = true := by kernel_rfl
theorem gPre : Ybad.prog.globalNamed (Rows.lawS6091BWholeRow.named.headD "") = some 0 := by kernel_rfl
theorem tPre : (Ybad.prog.globals[0]?).map (·.type) = some 30 := by kernel_rfl
theorem cells30 : Ybad.prog.cellsOf 30 = 3 := by kernel_rfl
theorem cells9 : Ybad.prog.cellsOf 9 = 1 := by kernel_rfl

theorem tab_of {W : World} (h : laidMetH Ybad.prog Rows.lawS6091BWholeRow.laid W) : Tab W := by
  rw [MakeChecks.laidMetH_plain _ _ _ (by kernel_rfl)] at h
  obtain ⟨ps, ⟨g0, t0, cs0, f0, p0, q0, hg0, ht0, hv0, hd0, _⟩, _, _⟩ := h
  obtain rfl := Option.some.inj (gPre.symm.trans hg0)
  obtain rfl := Option.some.inj (tPre.symm.trans ht0)
  obtain ⟨xs, m, _, hx, hl, hlen, hf⟩ := DataW.trod_array Ybad.underlying30 hd0
  rw [cells30] at hl
  simp only [cells9] at hf
  intro k hk
  have hk2 := hf k hk
  rw [List.getElem?_eq_getElem (by omega)] at hk2
  obtain ⟨s, hc, hd, _⟩ := DataW.trod_string Ybad.underlying9 hk2
  have hcell : W.cell? ⟨0, k * 1 + 0, none⟩ = some (.string s) := by
    have := World.var?_cell hg0 hv0 (k * 1 + 0)
    rw [this]
    have h2 : (List.take 1 (List.drop (k * 1) cs0.toList))[0]? = some (.string s) := by rw [hc]; rfl
    rwa [List.getElem?_take, if_pos (by omega), List.getElem?_drop, Array.getElem?_toList] at h2
  have hdat : (xs.map (·.1))[k]? = some (.lit (.string s.data.toList)) := by
    rw [List.getElem?_map, List.getElem?_eq_getElem (by omega), hd]; rfl
  have hxs : DataW.agg (xs.map (·.1)) = Rows.laid_example_com_kindred_ledger_kindred_ledger_pkg_register_prefixes := by
    have := congrArg Prod.fst hx; exact this.symm
  unfold Rows.laid_example_com_kindred_ledger_kindred_ledger_pkg_register_prefixes at hxs
  simp only [DataW.agg.injEq] at hxs
  rw [hxs] at hdat
  have e : s = pf k := by
    have : k = 0 ∨ k = 1 ∨ k = 2 := by omega
    rcases this with rfl | rfl | rfl <;> (simp at hdat; exact bytes_inj (by first | (rw [← hdat]; rfl) | (rw [hdat]; rfl)))
  subst e
  simpa using hcell

/-- The door's own heap meets the condition. -/
theorem door_met (os : Os) (args : Array Value) : laidMetH Ybad.prog Rows.lawS6091BWholeRow.laid ((World.doorLaid Ybad.prog 14 os).forCall (fun _ _ => 0) ⟨#[], args, []⟩).memory :=
  laidMetH_of_parts3 (fuel := 8) (laidMet_of_run' 8 (by kernel_rfl) (by kernel_rfl)) (by kernel_rfl) (by kernel_rfl)

set_option maxRecDepth 100000 in
theorem lifted (os : Os) (started : os.Started) (H : Type) (enc : TypeId × Value → H) :
    ReturnsInHanded {} Ybad.checked os 3 .any (fun w args => (Rows.lawS6091BWholeSpec.pre enc Ybad.prog Ybad.f3 [] false w args ∧ laidMetH Ybad.prog Rows.lawS6091BWholeRow.laid w) ∧ sizedMet enc Ybad.prog Ybad.f3 (OpenSpec.ofChange Rows.lawS6091BWholeSpec) false w args)
      (Rows.lawS6091BWholeSpec.post enc Ybad.prog Ybad.f3 false true false false) := by
  refine returnsInHanded_of_change_and (C := Ybad.checked) (X := fun w _ => laidMetH Ybad.prog Rows.lawS6091BWholeRow.laid w) (fun _ _ _ hh h => h.of_heap hh) own started (by kernel_rfl) Ybad.func3
    (ChangeSpec.witness_shaped (enc := enc) (C := Ybad.checked) (os := os) (X := fun w _ => laidMetH Ybad.prog Rows.lawS6091BWholeRow.laid w) false (World.doorLaid Ybad.prog 14 os) #[.string ⟨#[]⟩, .string ⟨#[]⟩, .int .u64 0] 8 rfl (World.shaped_of_RefB (by kernel_rfl) (by kernel_rfl)) (by kernel_rfl) (by kernel_rfl) (by kernel_rfl) (door_met os _)) ?_
  intro W base args ds gs before hval0 hW _ hsz hL _
  have hval : ∀ (j : Nat) t v, Ybad.f3.params[j]? = some t → args[j]? = some v → Value.okWide Ybad.prog W .any base t v := hval0
  have hW' := hW
  obtain ⟨p, q, hA0, hV, rfl, hfz, hnd⟩ := hW
  have hA : DataW.TrodAll enc Ybad.prog W 0 (fun _ => true) true Ybad.f3.params.toList args.toList ds p := hA0
  rw [Ybad.params3] at hA hval hsz
  obtain ⟨v0, vs0, d0, ds0, p0, q0, hargs, rfl, rfl, h0, r0⟩ := trodAll_cons hA
  obtain ⟨v1, vs1, d1, ds1, p1, q1, rfl, rfl, rfl, h1, r1⟩ := trodAll_cons r0
  obtain ⟨v2, vs2, d2, ds2, p2, q2, rfl, rfl, rfl, h2, r2⟩ := trodAll_cons r1
  obtain ⟨rfl, rfl, rfl⟩ := trodAll_nil r2
  obtain rfl : args = #[v0, v1, v2] := by cases args; simp_all
  obtain ⟨r, rfl, rfl, rfl, s0⟩ := open_string Ybad.underlying9 (hval 0 9 v0 rfl rfl) h0
  obtain ⟨v, rfl, rfl, rfl, s1⟩ := open_string Ybad.underlying9 (hval 1 9 v1 rfl rfl) h1
  obtain ⟨u, rfl, rfl, rfl, w2⟩ := open_int Ybad.underlying22 (hval 2 22 v2 rfl rfl) h2
  have b0 : r.data.toList.length ≤ reachBytes := sized_string hsz (j := 0) rfl rfl
  have b1 : v.data.toList.length ≤ reachBytes := sized_string hsz (j := 1) rfl rfl
  have c0 : r.size ≤ reachBytes := by rw [Array.length_toList] at b0; exact b0
  have c1 : v.size ≤ reachBytes := by rw [Array.length_toList] at b1; exact b1
  unfold reachBytes at c0 c1
  have hT := tab_of hL
  obtain ⟨u0, u1⟩ := bounds_u64 w2
  obtain ⟨k, rfl⟩ : ∃ k : Nat, u = (k : Int) := ⟨u.toNat, by omega⟩
  have hlt : 0 < W.heap.size := World.block_lt_of_cell? W _ (hT 0 (by omega))
  have main : Calls Ybad.prog 3 #[.string r, .string v, .int .u64 (k : Int)] W fun e w' => e = .returned (.bool true) ∧ Below W.heap.size W w' := by
    by_cases hb : r.size + v.size ≤ 1048576
    · exact law_any r v k (by omega) W hT hlt hb
    · exact law_big r v k W (by omega) (by omega)
  clear hA0 hval0
  obtain ⟨gd, rfl⟩ : ∃ gd, gs = [gd] := by obtain ⟨_, _, _, _, d, _, rfl, _⟩ := trodVars_one hV; exact ⟨d, rfl⟩
  refine main.mono fun e W' ⟨he, bel⟩ => ?_
  subst he
  exact ⟨_, rfl, _, _, _, [], _, _, hW', trodAll_mk1 (shut_bool Ybad.underlying4 _), (trodAll_cons_mk (shut_string Ybad.underlying9 s0) (trodAll_cons_mk (shut_string Ybad.underlying9 s1) (trodAll_cons_mk (shut_int Ybad.underlying22 w2) trodAll_mk0))), Below.trodVars laidOut bel (by kernel_rfl) hV, bel.frame _, fun h => by cases h⟩

theorem row_holds : Rows.LawS6091BWholeSaid :=
  OpenClaim.holds_of_wide 3 Ybad.f3 rfl rfl rfl rfl rfl rfl rfl ⟨rfl, rfl, rfl, rfl, rfl⟩ rfl rfl rfl rfl rfl (by kernel_rfl) Ybad.func3 (by kernel_rfl)
    (of_decide_eq_true (by kernel_rfl)) (by unfold Func.isWrapper; first | (rw [if_pos (by decide +kernel)]; kernel_rfl) | (rw [if_neg (by decide +kernel)]; exact ⟨rfl, rfl⟩))
    (fun os started H enc _ => lifted os started H enc)

/-- THE STATEMENT: the tied card. -/
theorem lawS6091B_card : Rows.LawS6091BWholeCardSaid :=
  Claim7.holds_tied_plain_at .later [] [.data] true (true, "198968046190a0482f47d318c2e78c65394349dd02ebf5bcafe37e37167a10cb") false
    row_holds (fun _ h => by cases h) (by kernel_rfl) (fun _ h => by cases h) lawS6091BWhole_row_tie rfl ⟨rfl, rfl⟩ (by kernel_rfl) rfl
    (fun f fn hf hfn => by
      obtain rfl : f = 3 := Option.some.inj ((show Ybad.prog.funcNamed Rows.lawS6091BWholeRow.func = some 3 by kernel_rfl).symm.trans hf) |>.symm
      obtain rfl : fn = Ybad.f3 := (Option.some.inj (Ybad.func3.symm.trans hfn)).symm
      exact ⟨by kernel_rfl, fun j t ht => by
        rw [Ybad.params3] at ht
        have hm : t ∈ [9, 9, 22] := by simpa using Array.mem_of_getElem? ht
        have hall : ([9, 9, 22].all fun u => !Ybad.prog.wantsStandIn u) = true := by kernel_rfl
        exact (show Ybad.prog.wantsStandIn t = false by simpa using List.all_eq_true.1 hall t hm)⟩)
    (by kernel_rfl)

end Go.Proofs.YbulkdvcuDoor

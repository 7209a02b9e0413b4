/-
  Loops whose rounds hold a range over a function: each round leaves a mark among the deferred calls.
-/
import Derived.Test.YbulkdvbsGreatBack
import Derived.Deep.RegionHeld3
import Derived.OrdersIn
namespace Go.Proofs.YbulkdvbsGreat
open Go.RowKit Go.Shelf

/-- Some slots are laid anew. -/
def updL (p : Nat → Bool) (u : Nat → Value) : Nat → List Value → List Value
  | _, [] => []
  | i, v :: l => (if p i = true then u i else v) :: updL p u (i + 1) l
/-- A loop that may lay marks. -/
theorem wp_loop_marks {c : Code} {L : List Value} {ds : List Deferred} {Q : Exit → Act → World → Prop} {w : World} (p : Nat → Bool) (I : (Nat → Value) → List Deferred → World → Prop) (μ : (Nat → Value) → Nat)
    (hL : updL p (fun i => L.getD i undef) 0 L = L) (h0 : I (fun i => L.getD i undef) ds w)
    (hr : ∀ (u : Nat → Value) (ds' : List Deferred) (W : World) (K : Act → World → Prop), I u ds' W → Hid (∀ (L' : List Value) (ds'' : List Deferred) (w' : World), updL p (fun i => L'.getD i undef) 0 L = L' → I (fun i => L'.getD i undef) ds'' w' → μ (fun i => L'.getD i undef) < μ u → K { tmps := L'.toArray, defers := ds'' } w') → c.wp Ybaz.prog (Exit.then K Q) { tmps := (updL p u 0 L).toArray, defers := ds' } W) :
    (Code.loop c).wp Ybaz.prog Q { tmps := L.toArray, defers := ds } w := by
  refine wp_loop (fun a' w' => ∃ (L' : List Value) (ds' : List Deferred), a' = { tmps := L'.toArray, defers := ds' } ∧ updL p (fun i => L'.getD i undef) 0 L = L' ∧ I (fun i => L'.getD i undef) ds' w') (fun a' _ => μ (fun i => a'.tmps.toList.getD i undef)) ⟨L, ds, rfl, hL, h0⟩ ?_
  rintro a' W ⟨L', ds', rfl, hu, hI⟩
  have h := hr (fun i => L'.getD i undef) ds' W (fun a2 w2 => (∃ (L2 : List Value) (ds2 : List Deferred), a2 = { tmps := L2.toArray, defers := ds2 } ∧ updL p (fun i => L2.getD i undef) 0 L = L2 ∧ I (fun i => L2.getD i undef) ds2 w2) ∧ μ (fun i => a2.tmps.toList.getD i undef) < μ (fun i => L'.getD i undef)) hI (fun L2 ds2 w2 h1 h2 h3 => ⟨⟨L2, ds2, rfl, h1, h2⟩, h3⟩)
  rw [hu] at h
  exact h
/-- The marks that stand. -/
def Marks (B : Nat) (W : World) (ds : List Deferred) : Prop := ds.Nodup ∧ ∀ d, d ∈ ds → ∃ D, d = { target := .collected D, args := #[] } ∧ B ≤ D ∧ W.heap[D]? = some (.deferred (some []))
theorem Marks.keep {B : Nat} {W W' : World} {ds : List Deferred} (h : Marks B W ds) {F : Nat → Prop} (k : Keep F W W') (hF : ∀ b, B ≤ b → F b → W.heap.size ≤ b) : Marks B W' ds := by
  refine ⟨h.1, fun d hd => ?_⟩
  obtain ⟨D, e, hB, hh⟩ := h.2 d hd
  exact ⟨D, e, hB, k.at hh (fun q => by have := hF D hB q; have := heap_lt hh; omega)⟩
theorem Marks.cons {B : Nat} {W : World} {ds : List Deferred} (h : Marks B W ds) {D : Nat} (hB : B ≤ D) (hh : W.heap[D]? = some (.deferred (some []))) (hn : ∀ d, d ∈ ds → d ≠ { target := .collected D, args := #[] }) : Marks B W ({ target := .collected D, args := #[] } :: ds) := by
  refine ⟨List.nodup_cons.2 ⟨fun q => hn _ q rfl, h.1⟩, fun d hd => ?_⟩
  rcases List.mem_cons.1 hd with rfl | hd
  · exact ⟨D, rfl, hB, hh⟩
  · exact h.2 d hd
/-- The function is left: the marks are taken. -/
theorem leaves_marks {fn : Func} {tmps : Array Value} {R : Ending → World → Prop} {B : Nat} : ∀ (ds : List Deferred) (W : World), Marks B W ds → (∀ W', Keep (fun b => B ≤ b) W W' → ∃ v, (results fn tmps).run Ybaz.prog W' = .ok v W' ∧ R (.returned v) W') → LeavesInM Fence.wide 5 Ybaz.prog fn tmps R ds .returning W
  | [], W, _, hR => by
    obtain ⟨v, h1, h2⟩ := hR W (Keep.refl _ _)
    exact ⟨v, h1, h2⟩
  | d :: ds, W, hM, hR => by
    obtain ⟨D, rfl, hB, hh⟩ := hM.2 d (.head _)
    have kp : Keep (fun b => b = D) W (W.putObj D (.deferred none)) := ⟨rfl, rfl, rfl, by simp [World.putObj], fun i hi hn => World.putObj_heap_other (by omega)⟩
    refine ⟨by simp, .inl ⟨D, _, rfl, run_takeDeferred hh, leaves_marks (B := B) ds _ ⟨(List.nodup_cons.1 hM.1).2, fun d' hd => ?_⟩ (fun W' k => hR W' ?_)⟩⟩
    · obtain ⟨D', rfl, hB', hh'⟩ := hM.2 d' (.tail _ hd)
      refine ⟨D', rfl, hB', kp.at hh' (fun e => ?_)⟩
      subst e
      exact (List.nodup_cons.1 hM.1).1 hd
    · exact (kp.wide (fun b e => by rw [e]; exact hB)).trans k (fun b q => .inl q)
/-- A range over a function whose round lays one slot. -/
theorem wp_range_slot {α : Type} {g : Operand} {ps : Array Tmp} {assign body : Code} {Q : Exit → Act → World → Prop} {tm : Array Value} {w : World} {df : List Deferred}
    (gf : Nat) (lb : Array Value) (hg : ({ tmps := tm, defers := df } : Act).eval g = .func (.func gf) #[] lb) (eg : ∀ args w, (callFunc gf args).run Ybaz.prog w = .ok (.enter gf args) w)
    {encs : α → Array Value} {Kp : World → World → Prop} {N : Nat} (hseq : SeqStopsK Fence.wide 4 Ybaz.prog gf lb encs Kp (fun _ => True) (fun _ => True) N w)
    (hKt : ∀ {A B C : World}, Kp A B → Kp B C → Kp A C) (hKb : ∀ (W : World) (l : Nat) (o o' : Obj), w.heap.size ≤ l → W.heap[l]? = some o → o.isCells = false → o.isWalk = false → Kp W (W.putObj l o')) (hps : ∀ x, (encs x).size = ps.size)
    (I : List α → World → Prop) (hI : OwnFrom w.heap.size I) (h0 : I [] w) (sl : Nat) (val : α → Value)
    (hassign : ∀ (l : Nat) (x : α) (W : World) (K : Act → World → Prop), K { tmps := (laidT ps (encs x) tm).setIfInBounds sl (val x), defers := [] } W →
      assign.wpIn (Fence.wide.inRound l) 3 Ybaz.prog (Exit.then K (fun _ _ _ => False)) { tmps := laidT ps (encs x) tm, defers := [] } W)
    (hbody : ∀ (l : Nat) (pre : List α) (x : α) (W : World), I pre W → pre.length < N → body.wpIn (Fence.wide.inRound l) 3 Ybaz.prog (ownPostG w.heap.size Kp I (fun _ _ _ => False) (pre ++ [x]) W) { tmps := (laidT ps (encs x) tm).setIfInBounds sl (val x), defers := [] } W)
    (hdone : ∀ (D : Nat) (xs : List α) (W : World), w.heap.size ≤ D → I xs W → W.heap[D]? = some (.deferred (some [])) → Q .normal { tmps := tm, defers := { target := .collected D, args := #[] } :: df } W) :
    (Code.rangeFunc g ps assign body).wp Ybaz.prog Q { tmps := tm, defers := df } w :=
  wp_range_plain gf lb hg eg hseq hKt hKb hps I hI h0 (fun x => (laidT ps (encs x) tm).setIfInBounds sl (val x)) hassign hbody hdone
/-- One operation inside a round. -/
theorem wpIn_round_op {l n : Nat} {o : Oper} {a : Act} {w : World} {K : Act → World → Prop} {Q : Exit → Act → World → Prop} (hd : ∀ c, o.op ≠ .defer c) (h : o.wp Ybaz.prog a w K Q) : o.wpIn (Fence.wide.inRound l) n Ybaz.prog a w K Q := by
  refine ⟨fun _ _ => trivial, ?_⟩
  rw [Oper.semAt_eq _ _ _ hd]
  unfold Oper.wp at h
  generalize (execOp a.eval o).run Ybaz.prog w = r at h ⊢
  cases r with
  | ok x w' =>
    cases x <;> simp only [Oper.upon, Oper.uponIn] at h ⊢
    case value v => exact h
    case skip => exact h
    case defer d => exact h
    case enter f args => exact ⟨fun q => by simp [Fence.wide] at q, callsIn_wide.2 h⟩
    case row row args => exact ⟨fun q => by simp [Fence.wide] at q, fun c cs _ => by
      obtain ⟨v, w2, r, st⟩ := h c cs
      exact ⟨v, w2, r, stepsIn_wide.2 st⟩⟩
  | halt x w' => cases x <;> simp only [Oper.upon, Oper.uponIn] at h ⊢ <;> exact h
/-- A region that draws, inside a round: by the held walk. -/
theorem wpAnyIn_of_held {l n : Nat} {md : Region.Mode} {ops : Array Oper} {Q : Exit → Act → World → Prop} {S : World → Prop} (hQ : ¬ LetsOut Q) (hnd : ∀ (i : Nat) (o : Oper), ops[i]? = some o → ∀ c, o.op ≠ .defer c) : ∀ (fuel : Nat) (listed : Array Bool) (a : Act) (w : World), wpAnyH Ybaz.prog md ops Q S fuel listed a w → wpAnyIn (Fence.wide.inRound l) n Ybaz.prog md ops Q fuel listed a w
  | 0, _, _, _, h => h
  | fuel + 1, listed, a, w, h => by
    refine ⟨h.1, fun i hi => ?_⟩
    have h2 := h.2 i hi
    unfold wpOp at h2
    unfold wpOpIn
    cases ho : ops[i]? with
    | none =>
      simp only [ho] at h2 ⊢
      exact wpAnyIn_of_held hQ hnd fuel _ _ _ h2.2
    | some o =>
      simp only [ho] at h2 ⊢
      by_cases hw : Region.wanted o (yielded ops a.tmps) = true
      · simp only [hw, if_true] at h2 ⊢
        rcases h2 with h2 | ⟨_, h2⟩
        · exact Oper.wpIn_mono (fun a' w' q => wpAnyIn_of_held hQ hnd fuel _ _ _ q.2) (wpIn_round_op (hnd i o ho) h2)
        · exact absurd h2 hQ
      · simp only [hw] at h2 ⊢
        exact ⟨fun _ _ => trivial, wpAnyIn_of_held hQ hnd fuel _ _ _ h2.2⟩
theorem wpIn_region_held_round {id l n : Nat} {ops : Array Oper} {Q : Exit → Act → World → Prop} {S : World → Prop} {a : Act} {w : World} (hQ : ¬ LetsOut Q) (hnd : (ops.toList.all fun o => match o.op with | .defer _ => false | _ => true) = true) (hS : S w.drew)
    (h : S w.drew → wpAnyH Ybaz.prog .any ops Q S ops.size (Array.replicate ops.size false) a w.drew) : (Code.region id ops true).wpIn (Fence.wide.inRound l) n Ybaz.prog Q a w :=
  wpIn_region_any (by kernel_rfl) (wpAnyIn_of_held hQ (fun i o ho c e => by
    have hm : o ∈ ops.toList := by
      rw [Array.mem_toList_iff]
      exact Array.mem_of_getElem? ho
    have := List.all_eq_true.1 hnd o hm
    simp [e] at this) _ _ _ _ (h hS))
end Go.Proofs.YbulkdvbsGreat

/-
  slices.Backward over the steps, as an iterator.
-/
import Derived.RangeFuncNested
import Derived.RangeFuncBound
import Derived.RangeFuncCalls
import Derived.RangeFuncLeaves
import Derived.Shelf.Abstract
import Derived.Shelf.RegionOpen
import Derived.OwnWalkIn
import Derived.TacticsInMore
import Derived.LoopNIn
import Derived.LoopIn
import Derived.Test.YbulkdvbsGreatSteps
namespace Go.Proofs.YbulkdvbsGreat
open Go.RowKit Go.Shelf

/-- The temporaries with a round's values laid. -/
def laidT (ps : Array Tmp) (vs tmps : Array Value) : Array Value := (ps.zip vs).foldl (fun t (p, v) => t.setIfInBounds p v) tmps
/-- A range over a function whose loop variable lies in a box; the body goes on to the end. -/
theorem wp_range_boxed {α : Type} {g : Operand} {ps : Array Tmp} {assign body : Code} {Q : Exit → Act → World → Prop} {tm : Array Value} {w : World}
    (gf : Nat) (lb : Array Value) (hg : ({ tmps := tm, defers := [] } : Act).eval g = .func (.func gf) #[] lb) (eg : ∀ args w, (callFunc gf args).run Ybaz.prog w = .ok (.enter gf args) w)
    {encs : α → Array Value} {Kp : World → World → Prop} {N : Nat} (hseq : SeqStopsK Fence.wide 4 Ybaz.prog gf lb encs Kp (fun _ => True) (fun _ => True) N w)
    (hKt : ∀ {A B C : World}, Kp A B → Kp B C → Kp A C) (hKb : ∀ (W : World) (l : Nat) (o o' : Obj), w.heap.size ≤ l → W.heap[l]? = some o → o.isCells = false → o.isWalk = false → Kp W (W.putObj l o')) (hps : ∀ x, (encs x).size = ps.size)
    (I : List α → World → Prop) (hI : OwnFrom w.heap.size I) (h0 : I [] w) (sl : Nat) (Bx : α → Nat → World → Prop) (hBx : ∀ x b, OwnFrom w.heap.size (fun (_ : Unit) W => Bx x b W))
    (hassign : ∀ (l : Nat) (pre : List α) (x : α) (W : World) (K : Act → World → Prop), I pre W → (∀ b W', KeepsFrom w.heap.size W W' → Kp W W' → I pre W' → Bx x b W' → K { tmps := (laidT ps (encs x) tm).setIfInBounds sl (.pointer (some ⟨b, 0, none⟩)), defers := [] } W') →
      assign.wpIn (Fence.wide.inRound l) 3 Ybaz.prog (Exit.then K (fun _ _ _ => False)) { tmps := laidT ps (encs x) tm, defers := [] } W)
    (hbody : ∀ (l : Nat) (pre : List α) (x : α) (b : Nat) (W : World), I pre W → Bx x b W → pre.length < N → body.wpIn (Fence.wide.inRound l) 3 Ybaz.prog (ownPostG w.heap.size Kp I (fun _ _ _ => False) (pre ++ [x]) W) { tmps := (laidT ps (encs x) tm).setIfInBounds sl (.pointer (some ⟨b, 0, none⟩)), defers := [] } W)
    (hdone : ∀ (D : Nat) (xs : List α) (W : World), w.heap.size ≤ D → I xs W → W.heap[D]? = some (.deferred (some [])) → Q .normal { tmps := tm, defers := [{ target := .collected D, args := #[] }] } W) :
    (Code.rangeFunc g ps assign body).wp Ybaz.prog Q { tmps := tm, defers := [] } w := by
  refine (wpIn_wide (n := 5)).1 ?_
  refine wpIn_rangeFunc_ownH rfl (by decide) (gf := gf) (lb := lb) hg trivial eg hseq hKt hKb (Below.refl _ _) hps I (fun _ _ _ => False) hI (fun _ _ _ _ _ hs _ _ => hs.elim) h0
    (fun x a' W => ∃ b, Bx x b W ∧ a' = { tmps := (laidT ps (encs x) tm).setIfInBounds sl (.pointer (some ⟨b, 0, none⟩)), defers := [] })
    (fun x a' s W W' row hs hg' hr => by
      obtain ⟨b, hb, e⟩ := hs
      exact ⟨b, hBx x b () W W' row hb hg' hr, e⟩) ?_ ?_ ?_ ?_
  · intro l pre x W K hi hK
    exact hassign l pre x W K hi (fun b W' k1 k2 i b1 => hK _ W' k1 k2 i ⟨b, b1, rfl⟩)
  · rintro l pre x a' W _ _ hi ⟨b, hb, rfl⟩ hlt
    exact hbody l pre x b W hi hb hlt
  · intro D xs W hD _ hi hd
    exact hdone D xs W hD hi hd
  · intro D c pre W _ _ h _
    exact h.elim
/-- A range over a function; the body goes on to the end. -/
theorem wp_range_plain {α : Type} {g : Operand} {ps : Array Tmp} {assign body : Code} {Q : Exit → Act → World → Prop} {tm : Array Value} {w : World} {df : List Deferred}
    (gf : Nat) (lb : Array Value) (hg : ({ tmps := tm, defers := df } : Act).eval g = .func (.func gf) #[] lb) (eg : ∀ args w, (callFunc gf args).run Ybaz.prog w = .ok (.enter gf args) w)
    {encs : α → Array Value} {Kp : World → World → Prop} {N : Nat} (hseq : SeqStopsK Fence.wide 4 Ybaz.prog gf lb encs Kp (fun _ => True) (fun _ => True) N w)
    (hKt : ∀ {A B C : World}, Kp A B → Kp B C → Kp A C) (hKb : ∀ (W : World) (l : Nat) (o o' : Obj), w.heap.size ≤ l → W.heap[l]? = some o → o.isCells = false → o.isWalk = false → Kp W (W.putObj l o')) (hps : ∀ x, (encs x).size = ps.size)
    (I : List α → World → Prop) (hI : OwnFrom w.heap.size I) (h0 : I [] w) (tx : α → Array Value)
    (hassign : ∀ (l : Nat) (x : α) (W : World) (K : Act → World → Prop), K { tmps := tx x, defers := [] } W →
      assign.wpIn (Fence.wide.inRound l) 3 Ybaz.prog (Exit.then K (fun _ _ _ => False)) { tmps := laidT ps (encs x) tm, defers := [] } W)
    (hbody : ∀ (l : Nat) (pre : List α) (x : α) (W : World), I pre W → pre.length < N → body.wpIn (Fence.wide.inRound l) 3 Ybaz.prog (ownPostG w.heap.size Kp I (fun _ _ _ => False) (pre ++ [x]) W) { tmps := tx x, defers := [] } W)
    (hdone : ∀ (D : Nat) (xs : List α) (W : World), w.heap.size ≤ D → I xs W → W.heap[D]? = some (.deferred (some [])) → Q .normal { tmps := tm, defers := { target := .collected D, args := #[] } :: df } W) :
    (Code.rangeFunc g ps assign body).wp Ybaz.prog Q { tmps := tm, defers := df } w := by
  refine (wpIn_wide (n := 5)).1 ?_
  refine wpIn_rangeFunc_ownG rfl (by decide) (gf := gf) (lb := lb) hg trivial eg hseq hKt hKb (Below.refl _ _) hps I (fun _ _ _ => False) hI (fun _ _ _ _ _ hs _ _ => hs.elim) h0 (fun x => { tmps := tx x, defers := [] }) ?_ ?_ ?_ ?_
  · intro l x W K hK
    exact hassign l x W K hK
  · intro l pre x W hi hlt
    exact hbody l pre x W hi hlt
  · intro D xs W hD _ hi hd
    exact hdone D xs W hD hi hd
  · intro D c pre W _ _ h _
    exact h.elim

/-- What a round over blocks a and b keeps. -/
def Kp2 (a b : Nat) (W W' : World) : Prop := W'.heap[a]? = W.heap[a]? ∧ W'.heap[b]? = W.heap[b]?
theorem Kp2.trans {a b : Nat} {A B C : World} (h : Kp2 a b A B) (k : Kp2 a b B C) : Kp2 a b A C := ⟨k.1.trans h.1, k.2.trans h.2⟩
/-- The cells of a step, as a value. -/
def stv (su sl : Nat → Nat) (sk : Nat → Int) (i : Nat) : Value := .agg #[.int .i64 (su i : Int), .int .i64 (sl i : Int), .int .i64 ((sl i : Int) + 1), .int .u8 (sk i)]
attribute [local go_sem] Oper.semAt_some
set_option maxRecDepth 100000 in
set_option maxHeartbeats 2000000 in
theorem back114_in (n : Nat) (hn : 1 ≤ n) (l bS SB NS sc : Nat) (su sl : Nat → Nat) (sk : Nat → Int) (hNS : NS ≤ 2000) (J Jx : List (Fin NS) → World → Prop)
    (hY : ∀ pre (x : Fin NS) W, J pre W → pre.length < NS → YieldAt Fence.wide (n - 1) Ybaz.prog l #[.int .i64 (x.1 : Int), stv su sl sk x.1] W fun e W' =>
      (e = .returned (.bool true) ∧ J (pre ++ [x]) W' ∧ Kp2 bS SB W W') ∨ (e = .returned (.bool false) ∧ Jx (pre ++ [x]) W'))
    (W : World) (hbS : W.cell? ⟨bS, 0, none⟩ = some (.slice (some ⟨SB, 0, none⟩) NS sc)) (hc : ∀ j, j < NS → W.cell? ⟨SB, j * 4, none⟩ = some (.int .i64 (su j : Int)) ∧ W.cell? ⟨SB, j * 4 + 1, none⟩ = some (.int .i64 (sl j : Int)) ∧ W.cell? ⟨SB, j * 4 + 2, none⟩ = some (.int .i64 ((sl j : Int) + 1)) ∧ W.cell? ⟨SB, j * 4 + 3, none⟩ = some (.int .u8 (sk j))) (h0 : J [] W) :
    CallsIn Fence.wide n Ybaz.prog 114 #[.func (.yield l) #[] #[], .pointer (some ⟨bS, 0, none⟩)] W fun e W' => (∃ v, e = .returned v) ∧
      ((∃ ys, True ∧ J ys W') ∨ (∃ pre, True ∧ Jx pre W')) := by
  have n2 : (NS : Int) ≤ 2000 := by omega
  refine callsIn_of_wp Ybaz.func114 rfl trivial ?_ rfl
  simp only [Ybaz.ntmps114, List.size_toArray, List.length_cons, List.length_nil, Nat.reduceAdd, Nat.reduceSub, Array.replicate_succ, Array.replicate_zero, List.push_toArray, List.append_toArray, List.nil_append, List.cons_append]
  gi_wp2
  gi_loopw [3] (fun i wr => ∃ (k : Nat) (pre : List (Fin NS)), k ≤ NS ∧ pre.length = NS - k ∧ i = .int .i64 ((k : Int) - 1) ∧ J pre wr ∧ Kp2 bS SB W wr)
    (fun i _ => (intOf i + 1).toNat)
  case atStart => exact ⟨NS, [], Nat.le_refl _, by simp, by simp, h0, rfl, rfl⟩
  case round =>
    obtain ⟨k, pre, hk, hp, rfl, hJs, hnx⟩ := hrel
    have hcb : wr.cell? ⟨bS, 0, none⟩ = some (.slice (some ⟨SB, 0, none⟩) NS sc) := (World.cell?_of_block (a := ⟨bS, 0, none⟩) hnx.1).trans hbS
    cases k with
    | zero =>
      gi_wp2
      go_end0
      exact ⟨⟨_, rfl⟩, .inl ⟨_, trivial, hJs⟩⟩
    | succ j =>
      have jc : ((j + 1 : Nat) : Int) - 1 = (j : Int) := by omega
      rw [jc]
      obtain ⟨c0, c1, c2, c3⟩ := hc j (by omega)
      have c0' := (World.cell?_of_block (a := ⟨SB, j * 4, none⟩) hnx.2).trans c0
      have c1' := (World.cell?_of_block (a := ⟨SB, j * 4 + 1, none⟩) hnx.2).trans c1
      have c2' := (World.cell?_of_block (a := ⟨SB, j * 4 + 2, none⟩) hnx.2).trans c2
      have c3' := (World.cell?_of_block (a := ⟨SB, j * 4 + 3, none⟩) hnx.2).trans c3
      clear c0 c1 c2 c3
      have j1 : (j : Int) < (NS : Int) := by omega
      have j2 : (j : Int).toNat = j := by omega
      obtain ⟨fn, tmps, assign, body, hy, hR⟩ := hY pre ⟨j, by omega⟩ wr hJs (by omega)
      unfold stv at hy
      dsimp only at hy
      gi_wp2
      refine hR.mono ?_
      rintro e W3 (⟨rfl, hJ3, hk3⟩ | ⟨rfl, hJx3⟩)
      · gi_wp2
        go_roundw
        case rel => exact ⟨j, _, by omega, by simp; omega, by go_num, hJ3, hnx.trans hk3⟩
        case measure => simp [intOf]
      · gi_wp2
        refine bodyPost_ret (results_none rfl _ _ _) rfl ?_
        exact ⟨⟨_, rfl⟩, .inr ⟨_, trivial, hJx3⟩⟩
theorem back114_stops (n : Nat) (hn : 1 ≤ n) (bS SB NS sc : Nat) (su sl : Nat → Nat) (sk : Nat → Int) (hNS : NS ≤ 2000) (w : World) (hb : bS < w.heap.size) (hs : SB < w.heap.size) (hbS : w.cell? ⟨bS, 0, none⟩ = some (.slice (some ⟨SB, 0, none⟩) NS sc)) (hc : ∀ j, j < NS → w.cell? ⟨SB, j * 4, none⟩ = some (.int .i64 (su j : Int)) ∧ w.cell? ⟨SB, j * 4 + 1, none⟩ = some (.int .i64 (sl j : Int)) ∧ w.cell? ⟨SB, j * 4 + 2, none⟩ = some (.int .i64 ((sl j : Int) + 1)) ∧ w.cell? ⟨SB, j * 4 + 3, none⟩ = some (.int .u8 (sk j))) :
    SeqStopsK Fence.wide n Ybaz.prog 114 #[.pointer (some ⟨bS, 0, none⟩)] (fun x : Fin NS => #[.int .i64 (x.1 : Int), stv su sl sk x.1]) (Kp2 bS SB) (fun _ => True) (fun _ => True) NS w := fun l J Jx W hW _ _ hY h0 =>
  back114_in n hn l bS SB NS sc su sl sk hNS J Jx hY W ((hW.cell (p := ⟨bS, 0, none⟩) hb).trans hbS)
    (fun j hj => ⟨(hW.cell (p := ⟨SB, j * 4, none⟩) hs).trans (hc j hj).1, (hW.cell (p := ⟨SB, j * 4 + 1, none⟩) hs).trans (hc j hj).2.1, (hW.cell (p := ⟨SB, j * 4 + 2, none⟩) hs).trans (hc j hj).2.2.1, (hW.cell (p := ⟨SB, j * 4 + 3, none⟩) hs).trans (hc j hj).2.2.2⟩) h0
set_option maxHeartbeats 1000000 in
set_option maxRecDepth 100000 in
theorem backward53 (a : Option Addr) (n c : Nat) (w : World) :
    Calls Ybaz.prog 53 #[.slice a n c] w fun e w' => e = .returned (.func (.func 114) #[] #[.pointer (some ⟨w.heap.size, 0, none⟩)]) ∧ w' = w.alloc (.cells #[.slice a n c] 71) := by
  have hmf : ∀ fn first cap w, (Instr.makeFunc fn first cap).run Ybaz.prog w = .ok (.func fn first cap) w := fun _ _ _ _ => rfl
  go_enter Ybaz.func53, Ybaz.ntmps53
  go_wp2
  go_ret
  exact ⟨rfl, rfl⟩
end Go.Proofs.YbulkdvbsGreat

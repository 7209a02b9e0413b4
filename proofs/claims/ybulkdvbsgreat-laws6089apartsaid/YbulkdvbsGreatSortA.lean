/-
  SortStableFunc over at most 12 anomalies, walked: they stay anomalies.
-/
import Derived.Test.YbulkdvbsGreatAdd
import Derived.Deep.LoopGhost
import Derived.Deep.MidRow
import Derived.Test.YbulkdvbsGreatWriters
namespace Go.Proofs.YbulkdvbsGreat
open Go.RowKit

set_option maxHeartbeats 4000000 in
set_option maxRecDepth 100000 in
/-- settle$1. -/
theorem cmpA (x x' : Int) (p a b p' a' b' : Option Addr) (n c m d n' c' m' d' : Nat) (w : World) (hx : 0 ≤ x ∧ x ≤ 255) (hx' : 0 ≤ x' ∧ x' ≤ 255) :
    Calls Ybaz.prog 72 #[.agg #[.int .u8 x, .pointer p, .slice a n c, .slice b m d], .agg #[.int .u8 x', .pointer p', .slice a' n' c', .slice b' m' d']] w fun e w' => (e = .returned (.int .i64 (x - x')) ∧ Keep (fun _ => False) w w') := by
  have k1 := Keep.alloc (fun _ => False) w (.cells #[.int .u8 x, .pointer p, .slice a n c, .slice b m d] 157)
  have k2 := Keep.alloc (fun _ => False) (w.alloc (.cells #[.int .u8 x, .pointer p, .slice a n c, .slice b m d] 157)) (.cells #[.int .u8 x', .pointer p', .slice a' n' c', .slice b' m' d'] 157)
  have HK : Hid _ := k1.trans k2 (fun _ q => q.elim)
  clear k1 k2
  go_enter Ybaz.func72, Ybaz.ntmps72
  go_wp2
  go_ret
  exact ⟨by simp, HK.out⟩


/-- 'load' of an anomaly, shut. -/
def opLd (t : TypeId) (p : Value) : Sem Next := do pure (.value (← Instr.loadAt t p))
/-- 'store' of an anomaly, shut. -/
def opSt (t : TypeId) (p v : Value) : Sem Next := do Instr.storeAt t p v; pure .skip
section
variable (ρ : Operand → Value) (dst : Option Tmp) (x y : Operand) (ty : TypeId) (pos : String) (after : Array Edge) (guard : Option (Nat × Bool))
theorem exec_load157 : execOp ρ { dst, op := .load 157 x, type := ty, pos, after, guard } = opLd 157 (ρ x) := rfl
theorem exec_store157 : execOp ρ { dst, op := .store 157 x y, type := ty, pos, after, guard } = opSt 157 (ρ x) (ρ y) := rfl
end
theorem info157 : (Ybaz.prog.info? 157).map (·.size) = some 4 := by kernel_rfl
/-- The four cells. -/
def row4 (f : Nat → Value) : Array Value := #[f 0, f 1, f 2, f 3]
theorem RowK.range {w : World} {b N : Nat} {F : Nat → Nat → Value} (h : RowK w b N 4 F) (i : Nat) (hi : i < N) : w.rangeAt b (i * 4) (row4 (F i)).toList := fun j v hv => by
  have hj : j < 4 := by have := (List.getElem?_eq_some_iff.1 hv).1; simpa [row4] using this
  rw [h.cell i j hi hj]
  have : j = 0 ∨ j = 1 ∨ j = 2 ∨ j = 3 := by omega
  rcases this with rfl | rfl | rfl | rfl <;> simpa [row4] using hv
theorem run_ld157 {w : World} {b N : Nat} {F : Nat → Nat → Value} (h : RowK w b N 4 F) (i : Nat) (hi : i < N) :
    (opLd 157 (.pointer (some ⟨b, i * 4, none⟩))).run Ybaz.prog w = .ok (.value (.agg (row4 (F i)))) w := by
  unfold opLd
  rw [Sem.run_bind, run_loadAt_mid w b (i * 4) 157 (row4 (F i)).toList _ (h.range i hi) Ybaz.underlying157 rfl info157]
  rfl
theorem row4_one {f : Nat → Value} (h : AnOk f) : (row4 f).all (·.oneCell') = true := by
  obtain ⟨x, p, a, b, n, c, n', c', _, _, h0, h1, h2, h3⟩ := h
  simp [row4, h0, h1, h2, h3, Value.oneCell']
theorem run_st157 {w : World} {b N : Nat} {F : Nat → Nat → Value} (h : RowK w b N 4 F) (i : Nat) (hi : i < N) (f : Nat → Value) (hf : AnOk f) :
    (opSt 157 (.pointer (some ⟨b, i * 4, none⟩)) (.agg (row4 f))).run Ybaz.prog w = .ok .skip (w.setCells b (i * 4) (row4 f).toList) := by
  unfold opSt
  rw [Sem.run_bind, run_storeAt_mid w b (i * 4) 157 (row4 f) (fun j hj => ?_) info157 (row4_one hf)]
  · rfl
  · have hj' : j < 4 := by simpa [row4] using hj
    rw [h.cell i j hi hj']
    exact ⟨rfl, h.free _⟩
theorem RowK.put4 {w : World} {b N : Nat} {F : Nat → Nat → Value} (h : RowK w b N 4 F) (i : Nat) (hi : i < N) (f : Nat → Value) : RowK (w.setCells b (i * 4) (row4 f).toList) b N 4 (fun a => if a = i then f else F a) := by
  refine ⟨fun a e ha he => ?_, fun j => by rw [World.frozen?_setCells]; exact h.free j⟩
  by_cases q : a = i
  · subst q
    have := World.rangeAt_setCells_same w b (a * 4) (row4 f).toList (fun j hj => by
      have hj' : j < 4 := by simpa [row4] using hj
      rw [h.cell a j ha hj']
      exact ⟨rfl, h.free _⟩)
    rw [this e (f e) (by
      have : e = 0 ∨ e = 1 ∨ e = 2 ∨ e = 3 := by omega
      rcases this with rfl | rfl | rfl | rfl <;> simp [row4])]
    simp
  · rw [World.cell?_setCells_out b (row4 f).toList (i * 4) w ⟨b, a * 4 + e, none⟩ (fun _ _ => by simp [row4]; omega), h.cell a e ha he]
    simp [q]
theorem RowK.drew {w : World} {L n k : Nat} {f : Nat → Nat → Value} (h : RowK w L n k f) : RowK w.drew L n k f := ⟨h.cell, h.free⟩
theorem RowK.drewN {w : World} {L n k : Nat} {f : Nat → Nat → Value} (h : RowK w L n k f) (q : Nat) : RowK (w.drewN q) L n k f := ⟨h.cell, h.free⟩
theorem AnOk.cmp {f g : Nat → Value} (hf : AnOk f) (hg : AnOk g) (w : World) : Calls Ybaz.prog 72 #[.agg (row4 f), .agg (row4 g)] w fun e w' => (∃ z : Int, e = .returned (.int .i64 z)) ∧ Keep (fun _ => False) w w' := by
  obtain ⟨x, p, a, b, n, c, n', c', x0, x1, h0, h1, h2, h3⟩ := hf
  obtain ⟨y, p2, a2, b2, n2, c2, n2', c2', y0, y1, k0, k1, k2, k3⟩ := hg
  have e1 : row4 f = #[.int .u8 x, .pointer p, .slice a n c, .slice b n' c'] := by simp [row4, *]
  have e2 : row4 g = #[.int .u8 y, .pointer p2, .slice a2 n2 c2, .slice b2 n2' c2'] := by simp [row4, *]
  rw [e1, e2]
  refine (cmpA x y p a b p2 a2 b2 n c n' c' n2 c2 n2' c2' w ⟨x0, x1⟩ ⟨y0, y1⟩).mono ?_
  rintro e w' ⟨rfl, k⟩
  exact ⟨⟨_, rfl⟩, k⟩
attribute [local go_sem ↓] exec_load157 exec_store157

set_option maxHeartbeats 8000000 in
set_option maxRecDepth 100000 in
theorem insA (a : Option Addr) (b N c : Nat) (F0 : Nat → Nat → Value) (w : World) (hN : N ≤ 12) (ha : 0 < N → a = some ⟨b, 0, none⟩) (hr : RowK w b N 4 F0) (hF : ∀ i, i < N → AnOk (F0 i)) :
    Calls Ybaz.prog 196 #[.slice a N c, .int .i64 0, .int .i64 (N : Int), .func (.func 72) #[] #[]] w fun e w' => e = .returned (.tuple #[]) ∧ Keep (fun k => k = b) w w' := by
  have hN2 : (N : Int) ≤ 12 := by omega
  have HR0 : Hid _ := hr
  have HF0 : Hid _ := hF
  have HA : Hid _ := ha
  clear hr hF ha
  go_enter Ybaz.func196, Ybaz.ntmps196
  go_wp2
  go_loopg [8] N (fun gk s wr => ∃ (i : Nat) (F : Nat → Nat → Value), 1 ≤ i ∧ i ≤ N + 1 ∧ s = .int .i64 (i : Int) ∧ gk = N + 1 - i ∧ Hid (RowK wr b N 4 F) ∧ Hid (∀ i, i < N → AnOk (F i)) ∧ Hid (Keep (fun k => k = b) w wr))
  case atStart => exact ⟨1, F0, Nat.le_refl _, by omega, rfl, by omega, HR0, HF0, Keep.refl _ _⟩
  case round =>
    clear HR0 HF0
    obtain ⟨i, F, hi1, hiN, rfl, rfl, HR, HF, HK⟩ := hrel
    by_cases hlt : i < N
    · have i1 : (i : Int) < (N : Int) := by omega
      have hA := HA.out (by omega)
      subst hA
      go_wp2
      go_loopg [9] (i + 1) (fun gk s wr => ∃ (j : Nat) (F : Nat → Nat → Value), j ≤ i ∧ s = .int .i64 (j : Int) ∧ gk = j + 1 ∧ Hid (RowK wr b N 4 F) ∧ Hid (∀ i, i < N → AnOk (F i)) ∧ Hid (Keep (fun k => k = b) w wr))
      case atStart => exact ⟨i, F, Nat.le_refl _, rfl, rfl, HR, HF, HK⟩
      case round =>
        clear HR HF HK
        clear F
        obtain ⟨j, F, hji, rfl, rfl, HR, HF, HK⟩ := hrel
        cases j with
        | zero =>
          go_upto_region 4 with fail
          go_quiet (fail)
          have HR2 : Hid _ := HR.out.keep (w' := wr.drewN nq) rfl
          have HK2 : Hid _ := HK.out.drewN nq
          clear HR HK
          generalize wr.drewN nq = w3 at *
          go_wp2
          go_roundg (N + 1 - (i + 1))
          case measure => omega
          case rel => exact ⟨i + 1, F, by omega, by omega, by go_num, rfl, HR2, HF, HK2⟩
        | succ j =>
          have h1 := HF.out (j + 1) (by omega)
          have h0 := HF.out j (by omega)
          have j1 : (j : Int) + 1 < (N : Int) := by omega
          have j2 : ((j : Int) + 1).toNat = j + 1 := by omega
          have j3 : (j : Int).toNat = j := by omega
          have j4 : (j : Int) < (N : Int) := by omega
          have j5 : (0 : Int) ≤ (j : Int) + 1 := by omega
          have j6 : (0 : Int) < (j : Int) + 1 := by omega
          have jc : ((j + 1 : Nat) : Int) = (j : Int) + 1 := by omega
          rw [jc]
          have jw : IntKind.i64.wrap ((j : Int) + 1 - 1) = (j : Int) := by rw [IntKind.wrap_i64]; omega
          have jw2 : IntKind.i64.wrap (j : Int) = (j : Int) := by rw [IntKind.wrap_i64]; omega
          have j0 : (0 : Int) ≤ (j : Int) := by omega
          have jj : (j : Int) + 1 - 1 = (j : Int) := by omega
          have hb : b < wr.heap.size := by
            by_cases q : b < wr.heap.size
            · exact q
            · have e : wr.heap[b]? = none := Array.getElem?_eq_none (by omega)
              have := HR.out.cell j 0 (by omega) (by omega)
              simp [World.cell?, e] at this
          clear jc
          have HC : Hid (∀ v : World, Keep (fun _ => False) wr v → Calls Ybaz.prog 72 #[.agg (row4 (F (j + 1))), .agg (row4 (F j))] v fun e w' => ∃ z : Int, e = .returned (.int .i64 z) ∧ ((opLd 157 (.pointer (some ⟨b, (j + 1) * 4, none⟩))).run Ybaz.prog w' = .ok (.value (.agg (row4 (F (j + 1))))) w' ∧ (opLd 157 (.pointer (some ⟨b, j * 4, none⟩))).run Ybaz.prog w' = .ok (.value (.agg (row4 (F j)))) w') ∧ Hid (Keep (fun _ => False) wr w')) := fun v kv => by
            refine (h1.cmp h0 v).mono ?_
            rintro e w' ⟨⟨z, rfl⟩, k'⟩
            have kk := kv.trans k' (fun _ q => q.elim)
            have r' := HR.out.keep (kk.block b hb id)
            exact ⟨z, rfl, ⟨run_ld157 r' (j + 1) (by omega), run_ld157 r' j (by omega)⟩, kk⟩
          have e1 := run_ld157 HR.out (j + 1) (by omega)
          have e0 := run_ld157 HR.out j (by omega)
          have e1d := run_ld157 HR.out.drew (j + 1) (by omega)
          have e0d := run_ld157 HR.out.drew j (by omega)
          have H1 : Hid _ := h1
          have H0 : Hid _ := h0
          clear h1 h0
          go_upto_region 4 with fail
          go_region_held3 (fun w' => (opLd 157 (.pointer (some ⟨b, (j + 1) * 4, none⟩))).run Ybaz.prog w' = .ok (.value (.agg (row4 (F (j + 1))))) w' ∧ (opLd 157 (.pointer (some ⟨b, j * 4, none⟩))).run Ybaz.prog w' = .ok (.value (.agg (row4 (F j)))) w') (first | assumption | exact ⟨e1, e0⟩ | exact ⟨e1d, e0d⟩) (first
            | (go_at_call 72; refine (HC.out _ ?_).mono ?_; (exact ⟨rfl, rfl, rfl, Nat.le_refl _, fun _ _ _ => rfl⟩); rintro e w2 ⟨z, rfl, hS2, HK2⟩))
          have HR3 : Hid _ := HR.out.keep (HK2.out.block b hb id)
          have HK3 : Hid (Keep (fun k => k = b) w w2) := HK.out.trans HK2.out (fun _ q => q.elim)
          clear HR HK HK2 HC e1 e0 e1d e0d hS2 hb
          by_cases hxy : z < 0
          · have e1 := run_ld157 HR3.out.drew (j + 1) (by omega)
            have e0 := run_ld157 HR3.out.drew j (by omega)
            have s1 := run_st157 HR3.out.drew (j + 1) (by omega) (F j) H0.out
            have r1 := HR3.out.drew.put4 (j + 1) (by omega) (F j)
            have k1 := HK3.out.drew.trans (Keep.setCells b (row4 (F j)).toList ((j + 1) * 4) w2.drew) (fun _ q => .inl q)
            generalize w2.drew.setCells b ((j + 1) * 4) (row4 (F j)).toList = wA at *
            have s0 := run_st157 r1 j (by omega) (F (j + 1)) H1.out
            have r0 := r1.put4 j (by omega) (F (j + 1))
            have k0 := k1.trans (Keep.setCells b (row4 (F (j + 1))).toList (j * 4) wA) (fun _ q => .inl q)
            generalize wA.setCells b (j * 4) (row4 (F (j + 1))).toList = wB at *
            have HR9 : Hid _ := r0
            have HK9 : Hid _ := k0
            have HF9 : Hid (∀ i, i < N → AnOk ((fun a => if a = j then F (j + 1) else if a = j + 1 then F j else F a) i)) := fun i hi => by
              by_cases q2 : i = j
              · simp only [q2, if_true]; exact H1.out
              · by_cases q1 : i = j + 1
                · simp only [q1, if_true, show ¬ j + 1 = j by omega, if_false]; exact H0.out
                · simp only [q1, q2, if_false]; exact HF.out i hi
            clear r1 r0 k1 k0 HR3 HK3 H1 H0
            go_upto_region 6 with fail
            go_region
            clear e1 e0 s1 s0
            go_wp2
            go_roundg (j + 1)
            case measure => omega
            case rel => exact ⟨j, _, by omega, by go_num, rfl, HR9, HF9, HK9⟩
          · go_wp2
            go_roundg (N + 1 - (i + 1))
            case measure => omega
            case rel => exact ⟨i + 1, F, by omega, by omega, by go_num, rfl, HR3, HF, HK3⟩
    · have q1 : ¬ (i : Int) < (N : Int) := by omega
      go_wp2
      go_end0
      exact ⟨rfl, HK.out⟩
set_option maxHeartbeats 4000000 in
set_option maxRecDepth 100000 in
theorem stabA (a : Option Addr) (b N c : Nat) (F0 : Nat → Nat → Value) (w : World) (hN : N ≤ 12) (ha : 0 < N → a = some ⟨b, 0, none⟩) (hr : RowK w b N 4 F0) (hF : ∀ i, i < N → AnOk (F0 i)) :
    Calls Ybaz.prog 148 #[.slice a N c, .int .i64 (N : Int), .func (.func 72) #[] #[]] w fun e w' => e = .returned (.tuple #[]) ∧ Keep (fun k => k = b) w w' := by
  have hN2 : (N : Int) ≤ 12 := by omega
  have HI := fun (_ : Unit) => (insA a b N c F0 w hN ha hr hF).mono (fun e w' h => (⟨h.1, h.2⟩ : e = .returned (.tuple #[]) ∧ Hid (Keep (fun k => k = b) w w')))
  clear ha hr hF
  go_enter Ybaz.func148, Ybaz.ntmps148
  go_wp2
  refine wp_loop_rounds 1 ?_
  rw [rounds_succ]
  go_wp2_with (go_at_call 196; refine (HI ()).mono ?_; rintro e w2 ⟨rfl, HK⟩)
  refine wp_loop_rounds 1 ?_
  rw [rounds_succ]
  go_wp2
  go_end0
  exact ⟨rfl, HK.out⟩
set_option maxHeartbeats 4000000 in
set_option maxRecDepth 100000 in
/-- slices.SortStableFunc over the anomalies. -/
theorem sortA (a : Option Addr) (N c : Nat) (F0 : Nat → Nat → Value) (w : World) (hN : N ≤ 12) (hv : Vec w 157 4 a N c F0) (hF : ∀ i, i < N → AnOk (F0 i)) :
    Calls Ybaz.prog 71 #[.slice a N c, .func (.func 72) #[] #[]] w fun e w' => e = .returned (.tuple #[]) ∧ Keep (fun k => a = some ⟨k, 0, none⟩) w w' := by
  obtain ⟨b, ha, hr, hk⟩ : ∃ b, (0 < N → a = some ⟨b, 0, none⟩) ∧ RowK w b N 4 F0 ∧ ∀ w', Keep (fun k => k = b) w w' → Keep (fun k => a = some ⟨k, 0, none⟩) w w' := by
    by_cases h0 : 0 < N
    · obtain ⟨g, e, hg, r⟩ := hv.blk h0
      exact ⟨g, fun _ => e, r, fun w' k => k.wide (fun i q => by rw [q, e])⟩
    · refine ⟨w.heap.size, fun q => absurd q h0, ⟨fun i c hi => by omega, fun i => by simp [World.frozen?]⟩, fun w' k => ⟨k.os, k.tape, k.output, k.size, fun i hi _ => k.block i hi (by omega)⟩⟩
  have HI := fun (_ : Unit) => (stabA a b N c F0 w hN ha hr hF).mono (fun e w' h => (⟨h.1, hk w' h.2⟩ : e = .returned (.tuple #[]) ∧ Hid (Keep (fun k => a = some ⟨k, 0, none⟩) w w')))
  clear ha hr hF hv hk
  go_enter Ybaz.func71, Ybaz.ntmps71
  go_wp2_with (go_at_call 148; refine (HI ()).mono ?_; rintro e w2 ⟨rfl, HK⟩)
  go_end0
  exact ⟨rfl, HK.out⟩
end Go.Proofs.YbulkdvbsGreat

/-
  readAnomalies in a history of reads and writes, walked, over the contract of singleVersionReads.
-/
import Derived.Test.YbulkdvbsGreatSVM
import Derived.Test.YbulkdvbsGreatAdd
namespace Go.Proofs.YbulkdvbsGreat
open Go.RowKit
attribute [local go_sem ↓ 2000] exec_app

/-- The cells of a read's anomaly. -/
def anR (x : Int) (p : Option Addr) (j : Nat) : Value := if j = 0 then .int .u8 x else if j = 1 then .pointer p else .slice none 0 0
theorem newR4 (w : World) (x : Int) (p : Option Addr) (e : TypeId) : ∀ j, j < 4 → (w.alloc (.cells #[.int .u8 x, .pointer p, .slice none 0 0, .slice none 0 0] e)).cell? ((⟨w.heap.size, 0, none⟩ : Addr).add j) = some (anR x p j) := fun j hj => by
  rw [add_none, cell_of _ _ _ _ _ (heap_alloc_new _ _)]
  have : j = 0 ∨ j = 1 ∨ j = 2 ∨ j = 3 := by omega
  rcases this with rfl | rfl | rfl | rfl <;> simp [anR]
/-- The anomalies so far. -/
structure AnV (w : World) (a : Option Addr) (n c : Nat) (F : Nat → Nat → Value) (W : World) : Prop where
  k : Keep (fun _ => False) w W
  v : Vec W 157 4 a n c F
  ok : ∀ i, i < n → AnOk (F i)
  nw : ∀ b, a = some ⟨b, 0, none⟩ → w.heap.size ≤ b
/-- One more. -/
theorem AnV.more {w W : World} {a : Option Addr} {n c : Nat} {F : Nat → Nat → Value} (h : AnV w a n c F W) (x : Int) (hx : 0 ≤ x ∧ x ≤ 255) (p : Option Addr) (hn : n ≤ 10) :
    ∃ g cap w', (opApp 39 39 (.slice a n c) (.slice (some ⟨W.heap.size, 0, none⟩) 1 1)).run Ybaz.prog (W.alloc (.cells #[.int .u8 x, .pointer p, .slice none 0 0, .slice none 0 0] 157)) = .ok (.value (.slice (some ⟨g, 0, none⟩) (n + 1) cap)) w' ∧ AnV w (some ⟨g, 0, none⟩) (n + 1) cap (push n F (anR x p)) w' := by
  obtain ⟨g, cap, w', hr, hv, hk, hg, hl⟩ := run_push (W.alloc (.cells #[.int .u8 x, .pointer p, .slice none 0 0, .slice none 0 0] 157)) 39 157 39 4 64 _ Ybaz.underlying39 inf157 rfl (by decide) (by decide) a n c F (h.v.alloc _) ⟨W.heap.size, 0, none⟩ 1 (anR x p) (newR4 W x p 157) (fun j _ => by unfold anR; split; rfl; split <;> rfl) (by omega)
  have k0 := Keep.alloc (fun _ => False) W (.cells #[.int .u8 x, .pointer p, .slice none 0 0, .slice none 0 0] 157)
  have hz := h.k.size
  have hz0 := k0.size
  refine ⟨g, cap, w', hr, ⟨(h.k.trans k0 (fun _ q => q.elim)).trans hk (fun b q => .inr (h.nw b q)), hv, fun i hi => ?_, fun b e => ?_⟩⟩
  · by_cases q : i = n
    · have e : push n F (anR x p) i = anR x p := by funext d; unfold push; rw [if_pos q]
      rw [e]
      exact ⟨x, p, none, none, 0, 0, 0, 0, hx.1, hx.2, by unfold anR; rfl, by unfold anR; rfl, by unfold anR; rfl, by unfold anR; rfl⟩
    · have e : push n F (anR x p) i = F i := by funext d; unfold push; rw [if_neg q]
      rw [e]
      exact h.ok i (Nat.lt_of_le_of_ne (Nat.le_of_lt_succ hi) q)
  · have e1 : g = b := (Addr.mk.inj (Option.some.inj e)).1
    rw [← e1]
    rcases hg with q | q
    · exact h.nw g q
    · omega
/-- What readAnomalies answers. -/
def RetAn (w w' : World) (e : Ending) : Prop := ∃ a n c F, e = .returned (.slice a n c) ∧ n ≤ 2 ∧ AnV w a n c F w'
set_option maxHeartbeats 8000000 in
set_option maxRecDepth 100000 in
theorem readA_of (OB M oc EM KS : Nat) (w : World) (hsv : ∀ v, Keep (fun _ => False) w v → Calls Ybaz.prog 66 #[.slice (some ⟨OB, 0, none⟩) M oc, .map (some EM), .pointer (some ⟨KS, 0, none⟩)] v fun e w' => RetPP e ∧ Keep (fun _ => False) v w') :
    Calls Ybaz.prog 18 #[.slice (some ⟨OB, 0, none⟩) M oc, .map (some EM), .bool false, .pointer (some ⟨KS, 0, none⟩)] w fun e w' => RetAn w w' e := by
  have k1 := Keep.alloc (fun _ => False) w (.cells #[.map (some EM)] 46)
  have HC := fun (_ : Unit) => (hsv _ k1).mono (fun e w' h => (⟨h.1, h.2⟩ : RetPP e ∧ Hid (Keep (fun _ => False) (w.alloc (.cells #[.map (some EM)] 46)) w')))
  have HK1 : Hid _ := k1
  clear k1 hsv
  go_enter Ybaz.func18, Ybaz.ntmps18
  go_upto_region 17 with (go_at_call 66; refine (HC ()).mono ?_; rintro e w2 ⟨⟨p, q, rfl⟩, HK2⟩)
  have HA0 : Hid (AnV w none 0 0 (fun _ _ => .int .u8 0) w2) := ⟨HK1.out.trans HK2.out (fun _ q => q.elim), Vec.nil _ _ _ _, fun i hi => by omega, fun b e => by simp at e⟩
  clear HC HK1 HK2
  cases p with
  | none =>
    cases q with
    | none =>
      go_wp2
      go_ret
      exact ⟨none, 0, 0, _, rfl, by omega, HA0.out⟩
    | some qa =>
      obtain ⟨g, cap, w3, hr, hv⟩ := HA0.out.more 2 (by omega) (some qa) (by omega)
      have HA : Hid _ := hv
      simp only [Nat.zero_add] at hr
      clear hv HA0
      go_wp2
      go_ret
      exact ⟨_, _, _, _, rfl, by omega, HA.out⟩
  | some pa =>
    obtain ⟨g, cap, w3, hr, hv⟩ := HA0.out.more 1 (by omega) (some pa) (by omega)
    have HA : Hid _ := hv
    simp only [Nat.zero_add] at hr
    clear hv HA0
    cases q with
    | none =>
      go_wp2
      go_ret
      exact ⟨_, _, _, _, rfl, by omega, HA.out⟩
    | some qa =>
      obtain ⟨g4, cap4, w4, hr4, hv4⟩ := HA.out.more 2 (by omega) (some qa) (by omega)
      have HA4 : Hid _ := hv4
      simp only [Nat.zero_add] at hr4
      clear hv4 HA
      go_wp2
      go_ret
      exact ⟨_, _, _, _, rfl, by omega, HA4.out⟩
end Go.Proofs.YbulkdvbsGreat

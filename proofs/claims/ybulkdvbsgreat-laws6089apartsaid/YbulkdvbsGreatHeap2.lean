/-
  container/heap: up, Init, Pop, Push, walked.
-/
import Derived.Test.YbulkdvbsGreatHeap
namespace Go.Proofs.YbulkdvbsGreat
open Go.RowKit

theorem Shuf.trans {n : Nat} {f g h : Nat → Nat} (a : Shuf n f g) (b : Shuf n g h) : Shuf n f h := by
  obtain ⟨σ, ⟨q, hq⟩, h1⟩ := a
  obtain ⟨τ, ⟨r, hr⟩, h2⟩ := b
  refine ⟨fun i => σ (τ i), ⟨fun i => r (q i), fun i hi => ?_⟩, fun i hi => ?_⟩
  · have T := hr i hi
    have A := hq (τ i) T.1
    have B := hq i hi
    have C := hr (q i) B.2.1
    exact ⟨A.1, C.2.1, by show r (q (σ (τ i))) = i; rw [A.2.2.1]; exact T.2.2.1, by show σ (τ (r (q i))) = i; rw [C.2.2.2]; exact B.2.2.2⟩
  · rw [h2 i hi, h1 (τ i) (hr i hi).1]

set_option maxHeartbeats 4000000 in
set_option maxRecDepth 100000 in
theorem up_any (H : Nat) (a : Option Addr) (n c : Nat) (f : Nat → Nat) (j0 : Nat) (w : World) (h : HP w H a n c f) (hn : n ≤ 6) (hj : j0 < n) :
    Calls Ybaz.prog 194 #[.iface 225 (.pointer (some ⟨H, 0, none⟩)), .int .i64 (j0 : Int)] w fun e w' => e = .returned (.tuple #[]) ∧ (∃ g, HP w' H a n c g ∧ Shuf n f g) ∧ Keep (hOwn H a) w w' := by
  have HH : Hid _ := h
  have ml := meth_less
  have ms := meth_swap
  have HL := fun (W : World) {g : Nat → Nat} (hW : HP W H a n c g) => hless_at W hW
  have HW := fun (W : World) {g : Nat → Nat} (hW : HP W H a n c g) => hswap_at W hW
  clear h
  go_enter Ybaz.func194, Ybaz.ntmps194
  go_wp2
  go_loopg [1] j0 (fun gk s wr => ∃ (j : Nat) (g : Nat → Nat), j < n ∧ s = .int .i64 (j : Int) ∧ gk = j ∧ Hid (HP wr H a n c g) ∧ Hid (Shuf n f g) ∧ Hid (Keep (hOwn H a) w wr))
  case atStart => exact ⟨j0, f, hj, rfl, rfl, HH, Shuf.refl _ _, Keep.refl _ _⟩
  case round =>
    obtain ⟨j, g, hj, rfl, HM, HV, HS, HK⟩ := hrel
    have j1 : (j : Int) < 6 := by omega
    by_cases h0 : j = 0
    · subst h0
      have q0 : (-1 : Int).tdiv 2 = 0 := by decide
      go_wp2
      go_end0
      exact ⟨rfl, ⟨_, HV.out, HS.out⟩, HK.out⟩
    · obtain ⟨k, hk, hkj⟩ : ∃ k : Nat, ((j : Int) - 1).tdiv 2 = (k : Int) ∧ k < j := ⟨(j - 1) / 2, by rw [Int.tdiv_eq_ediv_of_nonneg (by omega)]; omega, by omega⟩
      have q1 : ((k : Int) == (j : Int)) = false := by simp; omega
      have q2 : (k : Int) < 6 := by omega
      go_wp2_with (first
        | (go_at_call 266; refine (HL wr HV.out _ _ (by omega) (by omega)).mono ?_; rintro e w3 ⟨⟨b3, rfl⟩, hk3⟩; have HV3 : Hid _ := HV.out.keep hk3 (fun _ _ q => q); have HK3 : Hid (Keep (hOwn H a) w w3) := HK.out.trans hk3 (fun _ q => q.elim); clear HV HK hk3)
        | (go_at_call 269; refine (HW w3 HV3.out _ _ (by omega) (by omega)).mono ?_; rintro e w4 ⟨rfl, hv4, hk4⟩; have HV4 : Hid _ := hv4; have HK4 : Hid (Keep (hOwn H a) w w4) := HK3.out.trans hk4 (fun _ q => .inl q); clear HV3 HK3 hv4 hk4))
      · go_end0
        exact ⟨rfl, ⟨_, HV3.out, HS.out⟩, HK3.out⟩
      · go_roundg k
        case measure => omega
        case rel => exact ⟨k, _, by omega, rfl, rfl, HV4, HS.out.swp _ _ (by omega) (by omega), HK4⟩

set_option maxHeartbeats 4000000 in
set_option maxRecDepth 100000 in
theorem init_any (H : Nat) (a : Option Addr) (n c : Nat) (f : Nat → Nat) (w : World) (h : HP w H a n c f) (hn : n ≤ 5) :
    Calls Ybaz.prog 129 #[.iface 225 (.pointer (some ⟨H, 0, none⟩))] w fun e w' => e = .returned (.tuple #[]) ∧ (∃ g, HP w' H a n c g ∧ Shuf n f g) ∧ Keep (hOwn H a) w w' := by
  have HH : Hid _ := h
  have ml := meth_len
  have HL := fun _ : Unit => hlen_any H a n c f w h
  have HD := fun (W : World) {g : Nat → Nat} (hW : HP W H a n c g) (i : Nat) (hi : i < n) => down_any H a n c g i n W hW hn (Nat.le_refl _) hi
  clear h
  have n1 : (n : Int) ≤ 5 := by omega
  obtain ⟨k, hk, hkn⟩ : ∃ k : Nat, (n : Int).tdiv 2 = (k : Int) ∧ k ≤ n := ⟨n / 2, by rw [Int.tdiv_eq_ediv_of_nonneg (by omega)]; omega, by omega⟩
  have hkn2 : k < n ∨ n = 0 := by
    rw [Int.tdiv_eq_ediv_of_nonneg (by omega)] at hk; omega
  have k5 : (k : Int) ≤ 5 := by omega
  go_enter Ybaz.func129, Ybaz.ntmps129
  go_wp2_with (first
    | (go_at_call 130; refine (HL ()).mono ?_; clear HL; rintro e w2 ⟨rfl, rfl⟩))
  clear hk
  go_loopg [3] k (fun gk s wr => ∃ (i : Nat) (g : Nat → Nat), i ≤ k ∧ s = .int .i64 ((i : Int) - 1) ∧ gk = i ∧ Hid (HP wr H a n c g) ∧ Hid (Shuf n f g) ∧ Hid (Keep (hOwn H a) w wr))
  case atStart => exact ⟨k, f, Nat.le_refl _, rfl, rfl, HH, Shuf.refl _ _, Keep.refl _ _⟩
  case round =>
    obtain ⟨i, g, hi, rfl, HM, HV, HS, HK⟩ := hrel
    cases i with
    | zero =>
      go_wp2
      go_end0
      exact ⟨rfl, ⟨_, HV.out, HS.out⟩, HK.out⟩
    | succ i =>
      rw [show ((i + 1 : Nat) : Int) - 1 = (i : Int) by omega]
      go_wp2_with (first
        | (go_at_call 193; refine (HD wr HV.out i (by omega)).mono ?_; rintro e w3 ⟨⟨b3, rfl⟩, ⟨g3, hv3, hs3⟩, hk3⟩; have HV3 : Hid _ := hv3; have HS3 : Hid _ := hs3; have HK3 : Hid (Keep (hOwn H a) w w3) := HK.out.trans hk3 (fun _ q => .inl q); clear HV HK hk3 hv3 hs3))
      go_roundg i
      case measure => omega
      case rel => exact ⟨i, _, by omega, by go_num, rfl, HV3, HS.out.trans HS3.out, HK3⟩

/-- Behind heap.Pop: the last of a shuffle has been taken off. -/
def Popped (w' : World) (H : Nat) (a : Option Addr) (n c : Nat) (f : Nat → Nat) (e : Ending) : Prop := ∃ g, e = .returned (.iface 3 (.int .i64 (g n : Int))) ∧ HP w' H a n c g ∧ Shuf (n + 1) f g
set_option maxHeartbeats 4000000 in
set_option maxRecDepth 100000 in
theorem pop_any (H : Nat) (a : Option Addr) (n c : Nat) (f : Nat → Nat) (w : World) (h : HP w H a (n + 1) c f) (hn : n + 1 ≤ 5) :
    Calls Ybaz.prog 131 #[.iface 225 (.pointer (some ⟨H, 0, none⟩))] w fun e w' => Popped w' H a n c f e ∧ Keep (hOwn H a) w w' := by
  have HH : Hid _ := h
  have m1 := meth_len
  have m2 := meth_swap
  have m3 := meth_pop
  have n1 : (n : Int) ≤ 4 := by omega
  have HL := fun _ : Unit => hlen_any H a (n + 1) c f w h
  have HW := fun _ : Unit => hswap_any H a (n + 1) c f 0 n w h (by omega) (by omega)
  have HD := fun (W : World) {g : Nat → Nat} (hW : HP W H a (n + 1) c g) => down_any H a (n + 1) c g 0 n W hW hn (by omega) (by omega)
  have HP0 := fun (W : World) {g : Nat → Nat} (hW : HP W H a (n + 1) c g) => hpop0_any H a n c g W hW (by omega)
  clear h
  go_enter Ybaz.func131, Ybaz.ntmps131
  go_wp2_with (first
    | (go_at_call 130; refine (HL ()).mono ?_; clear HL; rintro e w2 ⟨rfl, rfl⟩)
    | (go_at_call 269; refine (HW ()).mono ?_; clear HW; rintro e w3 ⟨rfl, hv3, hk3⟩; have HV3 : Hid _ := hv3; have HK3 : Hid _ := hk3; clear hv3 hk3)
    | (go_at_call 193; refine (HD w3 HV3.out).mono ?_; clear HD; rintro e w4 ⟨⟨b4, rfl⟩, ⟨g4, hv4, hs4⟩, hk4⟩; have HV4 : Hid _ := hv4; have HS4 : Hid _ := hs4; have HK4 : Hid (Keep (hOwn H a) w w4) := HK3.out.trans hk4 (fun _ q => .inl q); clear hv4 hs4 hk4)
    | (go_at_call 267; refine (HP0 w4 HV4.out).mono ?_; clear HP0; rintro e w5 ⟨rfl, hv5, hk5⟩; have HV5 : Hid _ := hv5; have HK5 : Hid (Keep (hOwn H a) w w5) := HK4.out.trans hk5 (fun _ q => .inl q); clear hv5 hk5))
  go_ret
  exact ⟨⟨g4, rfl, HV5.out, ((Shuf.refl (n + 1) f).swp 0 n (by omega) (by omega)).trans HS4.out⟩, HK5.out⟩

/-- Behind heap.Push. -/
def PushedS (w w' : World) (H : Nat) (a : Option Addr) (n : Nat) (f : Nat → Nat) : Prop := ∃ g c k, HP w' H (some ⟨g, 0, none⟩) n c k ∧ Shuf n f k ∧ Keep (hOwn H a) w w' ∧ (a = some ⟨g, 0, none⟩ ∨ w.heap.size ≤ g)
set_option maxHeartbeats 4000000 in
set_option maxRecDepth 100000 in
theorem push_any (H : Nat) (a : Option Addr) (n c : Nat) (f : Nat → Nat) (u : Nat) (w : World) (h : HP w H a n c f) (hn : n ≤ 5) :
    Calls Ybaz.prog 132 #[.iface 225 (.pointer (some ⟨H, 0, none⟩)), .iface 3 (.int .i64 (u : Int))] w fun e w' => e = .returned (.tuple #[]) ∧ PushedS w w' H a (n + 1) (fun i => if i = n then u else f i) := by
  have HH : Hid _ := h
  have m1 := meth_len
  have m3 := meth_push
  have n1 : (n : Int) ≤ 5 := by omega
  have HP0 := fun _ : Unit => hpush0_any H a n c f u w h (by omega)
  have HL := fun (W : World) {a : Option Addr} {c : Nat} {g : Nat → Nat} (hW : HP W H a (n + 1) c g) => hlen_any H a (n + 1) c g W hW
  have HU := fun (W : World) {a : Option Addr} {c : Nat} {g : Nat → Nat} (hW : HP W H a (n + 1) c g) => up_any H a (n + 1) c g n W hW (by omega) (by omega)
  clear h
  go_enter Ybaz.func132, Ybaz.ntmps132
  go_wp2_with (first
    | (go_at_call 268; refine (HP0 ()).mono ?_; clear HP0; rintro e w3 ⟨rfl, g3, c3, hv3, hk3, hg3⟩; have HV3 : Hid _ := hv3; have HK3 : Hid _ := hk3; have HG3 : Hid _ := hg3; clear hv3 hk3 hg3)
    | (go_at_call 130; refine (HL w3 HV3.out).mono ?_; clear HL; rintro e w4 ⟨rfl, rfl⟩)
    | (go_at_call 194; refine (HU w3 HV3.out).mono ?_; clear HU; rintro e w5 ⟨rfl, ⟨g5, hv5, hs5⟩, hk5⟩; have HV5 : Hid _ := hv5; have HS5 : Hid _ := hs5; have HK5 : Hid _ := hk5; clear hv5 hs5 hk5))
  go_end0
  refine ⟨rfl, g3, c3, g5, HV5.out, HS5.out, HK3.out.trans HK5.out ?_, HG3.out⟩
  rintro b (q | q)
  · exact .inl (.inl q)
  · injection q with q; injection q with q
    rcases HG3.out with r | r
    · exact .inl (.inr (by rw [r, q]))
    · exact .inr (by omega)
end Go.Proofs.YbulkdvbsGreat

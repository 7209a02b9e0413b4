/-
  minHeap's methods, and container/heap over them, walked: what lies in the heap is shuffled.
-/
import Derived.Test.YbulkdvbsGreatApp
import Derived.Test.YbulkdvbsGreatEnter
import Derived.Deep.LoopGhost
namespace Go.Proofs.YbulkdvbsGreat
open Go.RowKit

/-- A minHeap: block H holds its one field, the slice of n nodes f. -/
structure HP (w : World) (H : Nat) (a : Option Addr) (n c : Nat) (f : Nat → Nat) : Prop where
  blk : w.heap[H]? = some (.cells #[.slice a n c] 227)
  vec : Vec w 3 1 a n c (fun i _ => .int .i64 (f i : Int))
/-- The heap's blocks. -/
def hOwn (H : Nat) (a : Option Addr) (b : Nat) : Prop := b = H ∨ a = some ⟨b, 0, none⟩
theorem HP.keep {w w' : World} {H : Nat} {a : Option Addr} {n c : Nat} {f : Nat → Nat} (h : HP w H a n c f) {F : Nat → Prop} (k : Keep F w w') (hF : ∀ b, hOwn H a b → ¬ F b) : HP w' H a n c f :=
  ⟨k.at h.blk (hF _ (.inl rfl)), h.vec.keep k (fun b hb => hF b (.inr hb))⟩
theorem HP.congr {w : World} {H : Nat} {a : Option Addr} {n c : Nat} {f g : Nat → Nat} (h : HP w H a n c f) (e : ∀ i, i < n → f i = g i) : HP w H a n c g :=
  ⟨h.blk, h.vec.congr Nat.one_pos (fun i _ hi _ => by rw [e i hi])⟩
theorem HP.row {w : World} {H : Nat} {a : Option Addr} {n c : Nat} {f : Nat → Nat} (h : HP w H a n c f) (hn : 0 < n) : ∃ g, a = some ⟨g, 0, none⟩ ∧ g < w.heap.size ∧ Row w g n (fun i => .int .i64 (f i : Int)) := by
  obtain ⟨g, h1, h2, h3⟩ := h.vec.blk hn
  exact ⟨g, h1, h2, fun i hi => by have := h3.cell i 0 hi (by omega); simpa using this, h3.free⟩

set_option maxHeartbeats 2000000 in
set_option maxRecDepth 100000 in
theorem hlen_any (H : Nat) (a : Option Addr) (n c : Nat) (f : Nat → Nat) (w : World) (h : HP w H a n c f) :
    Calls Ybaz.prog 130 #[.pointer (some ⟨H, 0, none⟩)] w fun e w' => e = .returned (.int .i64 (n : Int)) ∧ w = w' := by
  have c0 : w.cell? ⟨H, 0, none⟩ = some (.slice a n c) := cell_of w H 0 _ _ h.blk
  clear h
  go_enter Ybaz.func130, Ybaz.ntmps130
  go_wp2
  go_ret
  exact ⟨rfl, rfl⟩

set_option maxHeartbeats 4000000 in
set_option maxRecDepth 100000 in
theorem hless_any (H : Nat) (a : Option Addr) (n c : Nat) (f : Nat → Nat) (i j : Nat) (w : World) (h : HP w H a n c f) (hi : i < n) (hj : j < n) :
    Calls Ybaz.prog 266 #[.pointer (some ⟨H, 0, none⟩), .int .i64 (i : Int), .int .i64 (j : Int)] w fun e w' => (∃ b : Bool, e = .returned (.bool b)) ∧ Keep (fun _ => False) w w' := by
  have c0 : w.cell? ⟨H, 0, none⟩ = some (.slice a n c) := cell_of w H 0 _ _ h.blk
  obtain ⟨g, rfl, hg, hr⟩ := h.row (by omega)
  have e1 := hr.cell i hi
  have e2 := hr.cell j hj
  have i1 : (i : Int) < (n : Int) := by omega
  have i2 : (i : Int).toNat = i := by omega
  have j1 : (j : Int) < (n : Int) := by omega
  have j2 : (j : Int).toNat = j := by omega
  clear h hr
  go_enter Ybaz.func266, Ybaz.ntmps266
  go_upto_region 1 with fail
  go_quiet (fail)
  go_wp2
  go_ret
  exact ⟨⟨_, rfl⟩, (Keep.refl _ _).drewN _⟩

/-- The heap with two nodes swapped. -/
def swp (f : Nat → Nat) (i j : Nat) : Nat → Nat := fun k => if k = i then f j else if k = j then f i else f k
theorem swp_val (f : Nat → Nat) (i j k : Nat) : (if k = j ∧ (0 : Nat) = 0 then Value.int .i64 (f i : Int) else if k = i ∧ (0 : Nat) = 0 then Value.int .i64 (f j : Int) else Value.int .i64 (f k : Int)) = Value.int .i64 (swp f i j k : Int) := by
  unfold swp
  by_cases q1 : k = i
  · subst q1
    by_cases q2 : k = j
    · subst q2; simp
    · simp [q2]
  · by_cases q2 : k = j
    · subst q2; simp [q1]
    · simp [q1, q2]
set_option maxHeartbeats 4000000 in
set_option maxRecDepth 100000 in
theorem hswap_any (H : Nat) (a : Option Addr) (n c : Nat) (f : Nat → Nat) (i j : Nat) (w : World) (h : HP w H a n c f) (hi : i < n) (hj : j < n) :
    Calls Ybaz.prog 269 #[.pointer (some ⟨H, 0, none⟩), .int .i64 (i : Int), .int .i64 (j : Int)] w fun e w' => e = .returned (.tuple #[]) ∧ HP w' H a n c (swp f i j) ∧ Keep (hOwn H a) w w' := by
  have c0 : w.cell? ⟨H, 0, none⟩ = some (.slice a n c) := cell_of w H 0 _ _ h.blk
  obtain ⟨g, rfl, hg, hr⟩ := h.row (by omega)
  have e1 := hr.cell i hi
  have e2 := hr.cell j hj
  have z1 := hr.free i
  have z2 := hr.free j
  have i1 : (i : Int) < (n : Int) := by omega
  have i2 : (i : Int).toNat = i := by omega
  have j1 : (j : Int) < (n : Int) := by omega
  have j2 : (j : Int).toNat = j := by omega
  have hgH : g ≠ H := fun e => by subst e; exact h.vec.off h.blk (by decide) rfl
  have e3 : (w.setCell ⟨g, i, none⟩ (.int .i64 (f j : Int))).cell? ⟨g, j, none⟩ = some (.int .i64 (f j : Int)) := by
    rw [cell_set _ _ _ _ _ (by rw [e1]; rfl), e2]; split <;> rfl
  have k1 := Keep.setCell w ⟨g, i, none⟩ (.int .i64 (f j : Int))
  have k2 := Keep.setCell (w.setCell ⟨g, i, none⟩ (.int .i64 (f j : Int))) ⟨g, j, none⟩ (.int .i64 (f i : Int))
  have HK : Hid (Keep (hOwn H (some ⟨g, 0, none⟩)) w ((w.setCell ⟨g, i, none⟩ (.int .i64 (f j : Int))).setCell ⟨g, j, none⟩ (.int .i64 (f i : Int))).drew) :=
    ((k1.trans k2 (fun _ q => .inl q)).wide (fun b q => .inr (by have q2 : b = g := q; rw [q2]))).drew
  have HV : Hid (HP ((w.setCell ⟨g, i, none⟩ (.int .i64 (f j : Int))).setCell ⟨g, j, none⟩ (.int .i64 (f i : Int))).drew H (some ⟨g, 0, none⟩) n c (swp f i j)) := by
    have v1 := h.vec.set i 0 (.int .i64 (f j : Int)) hi (by decide)
    have v2 := v1.set j 0 (.int .i64 (f i : Int)) hj (by decide)
    simp only [Nat.mul_one, Nat.add_zero] at v2
    have kd := (Keep.refl (fun _ => False) ((w.setCell ⟨g, i, none⟩ (.int .i64 (f j : Int))).setCell ⟨g, j, none⟩ (.int .i64 (f i : Int)))).drew
    refine ⟨kd.at (k2.at (k1.at h.blk (fun q => hgH q.symm)) (fun q => hgH q.symm)) id, (v2.keep kd (fun _ _ q => q)).congr Nat.one_pos (fun k b _ hb => ?_)⟩
    have : b = 0 := by omega
    subst this
    exact swp_val f i j k
  clear h hr k1 k2
  go_enter Ybaz.func269, Ybaz.ntmps269
  go_region
  generalize ((w.setCell ⟨g, i, none⟩ (.int .i64 (f j : Int))).setCell ⟨g, j, none⟩ (.int .i64 (f i : Int))).drew = w2 at *
  go_wp2
  go_end0
  exact ⟨rfl, HV.out, HK.out⟩

set_option maxHeartbeats 4000000 in
set_option maxRecDepth 100000 in
/-- minHeap.Pop. -/
theorem hpop0_any (H : Nat) (a : Option Addr) (n c : Nat) (f : Nat → Nat) (w : World) (h : HP w H a (n + 1) c f) (hn : n ≤ 100000) :
    Calls Ybaz.prog 267 #[.pointer (some ⟨H, 0, none⟩)] w fun e w' => e = .returned (.iface 3 (.int .i64 (f n : Int))) ∧ HP w' H a n c f ∧ Keep (hOwn H a) w w' := by
  have c0 : w.cell? ⟨H, 0, none⟩ = some (.slice a (n + 1) c) := cell_of w H 0 _ _ h.blk
  have z0 := free_of w H 0 _ _ h.blk
  obtain ⟨g, rfl, hg, hr⟩ := h.row (by omega)
  have e1 := hr.cell n (by omega)
  have n0 : (n : Int) ≤ 100000 := by omega
  have n2 : (n : Int).toNat = n := by omega
  have hgH : g ≠ H := fun e => by subst e; exact h.vec.off h.blk (by decide) rfl
  have hc : n + 1 ≤ c := h.vec.cap
  have hc2 : (n : Int) ≤ (c : Int) := by omega
  have k1 := Keep.setCell w ⟨H, 0, none⟩ (.slice (some ⟨g, 0, none⟩) n c)
  have HK : Hid (Keep (hOwn H (some ⟨g, 0, none⟩)) w (w.setCell ⟨H, 0, none⟩ (.slice (some ⟨g, 0, none⟩) n c))) := k1.wide (fun b q => .inl q)
  have HV : Hid (HP (w.setCell ⟨H, 0, none⟩ (.slice (some ⟨g, 0, none⟩) n c)) H (some ⟨g, 0, none⟩) n c f) :=
    ⟨heap_set w H 0 _ _ _ h.blk, (h.vec.take n (by omega)).keep k1 (fun b hb q => by injection hb with hb; injection hb with hb; have q2 : b = H := q; omega)⟩
  clear h hr k1
  go_enter Ybaz.func267, Ybaz.ntmps267
  go_upto_region 1 with fail
  go_quiet (fail)
  go_upto_region 2 with fail
  go_region
  have HV2 : Hid (HP ((w.drewN (nq + 1)).setCell ⟨H, 0, none⟩ (.slice (some ⟨g, 0, none⟩) n c)) H (some ⟨g, 0, none⟩) n c f) := HV.out.keep ((Keep.refl (fun _ => False) _).drewN (nq + 1)) (fun _ _ q => q)
  have HK2 : Hid (Keep (hOwn H (some ⟨g, 0, none⟩)) w ((w.drewN (nq + 1)).setCell ⟨H, 0, none⟩ (.slice (some ⟨g, 0, none⟩) n c))) := HK.out.drewN (nq + 1)
  clear HV HK
  generalize (w.drewN (nq + 1)).setCell ⟨H, 0, none⟩ (.slice (some ⟨g, 0, none⟩) n c) = w2 at *
  go_wp2
  go_ret
  exact ⟨rfl, HV2.out, HK2.out⟩

attribute [local go_sem ↓ 2000] exec_app
theorem run_assert_int (u : Int) (w : World) : (Instr.typeAssert (.iface 3 (.int .i64 u)) 20 3 false).run Ybaz.prog w = .ok (.int .i64 u) w := by kernel_rfl
/-- Behind minHeap.Push. -/
def Pushed (w w' : World) (H : Nat) (a : Option Addr) (n : Nat) (f : Nat → Nat) : Prop := ∃ g c, HP w' H (some ⟨g, 0, none⟩) n c f ∧ Keep (hOwn H a) w w' ∧ (a = some ⟨g, 0, none⟩ ∨ w.heap.size ≤ g)
set_option maxHeartbeats 4000000 in
set_option maxRecDepth 100000 in
theorem hpush0_any (H : Nat) (a : Option Addr) (n c : Nat) (f : Nat → Nat) (u : Nat) (w : World) (h : HP w H a n c f) (hn : n ≤ 100000) :
    Calls Ybaz.prog 268 #[.pointer (some ⟨H, 0, none⟩), .iface 3 (.int .i64 (u : Int))] w fun e w' => e = .returned (.tuple #[]) ∧ Pushed w w' H a (n + 1) (fun i => if i = n then u else f i) := by
  have c0 : w.cell? ⟨H, 0, none⟩ = some (.slice a n c) := cell_of w H 0 _ _ h.blk
  have hna : ¬ a = some ⟨H, 0, none⟩ := h.vec.off h.blk (by decide)
  have hH := heap_lt h.blk
  obtain ⟨g4, cap4, w4, hr4, hv4, hk4, hg4, hl4⟩ := run_push (w.alloc (.cells #[.int .i64 (u : Int)] 3)).drew 62 3 62 1 8 _ Ybaz.underlying62 inf3 rfl Nat.one_pos (by decide) a n c _ ((h.vec.keep ((Keep.refl (fun _ => False) _).drew) (fun _ _ q => q)).alloc _) ⟨w.heap.size, 0, none⟩ 1 (fun _ => .int .i64 (u : Int)) (new1 w.drew _ 3) (fun _ _ => rfl) (by omega)
  have b8 := hk4.at (heap_grow (w := w.drew) (.cells #[.int .i64 (u : Int)] 3) h.blk) hna
  have c8 : w4.cell? ⟨H, 0, none⟩ = some (.slice a n c) := cell_of w4 H 0 _ _ b8
  have z8 := free_of w4 H 0 _ _ b8
  obtain ⟨t1, t2, t3, _, t5⟩ := field_push (wr := w.drew) (i := 0) h.blk hv4 hk4 hg4 hna
  have HV : Hid (HP (w4.setCell ⟨H, 0, none⟩ (.slice (some ⟨g4, 0, none⟩) (n + 1) cap4)) H (some ⟨g4, 0, none⟩) (n + 1) cap4 (fun i => if i = n then u else f i)) := ⟨t1, t2.congr Nat.one_pos (fun i _ _ _ => by unfold push; by_cases e : i = n <;> simp only [e, if_true, if_false])⟩
  have HK : Hid (Keep (hOwn H a) w (w4.setCell ⟨H, 0, none⟩ (.slice (some ⟨g4, 0, none⟩) (n + 1) cap4))) := ((Keep.refl (fun _ => False) w).drew.wide (fun _ q => q.elim)).trans t3 (fun b q => .inl q)
  have HG : Hid (a = some ⟨g4, 0, none⟩ ∨ w.heap.size ≤ g4) := t5
  have hta := fun W => run_assert_int (u : Int) W
  have c9 : (w.alloc (.cells #[.int .i64 (u : Int)] 3)).cell? ⟨H, 0, none⟩ = some (.slice a n c) := cell_of _ H 0 _ _ (heap_grow _ h.blk)
  clear h hv4 hk4 hg4 hl4 t1 t2 t3 t5 b8
  go_enter Ybaz.func268, Ybaz.ntmps268
  go_region
  go_end0
  exact ⟨rfl, _, _, HV.out, HK.out, HG.out⟩

/-- The heap as a value with methods. -/
def hv (H : Nat) : Value := .iface 225 (.pointer (some ⟨H, 0, none⟩))
/-- A shuffle of the first n. -/
def Shuf (n : Nat) (f g : Nat → Nat) : Prop := ∃ σ, Bij n σ ∧ ∀ i, i < n → g i = f (σ i)
theorem Shuf.refl (n : Nat) (f : Nat → Nat) : Shuf n f f := ⟨_, Bij.id n, fun _ _ => rfl⟩
theorem Shuf.swp {n : Nat} {f g : Nat → Nat} (h : Shuf n f g) (i j : Nat) (hi : i < n) (hj : j < n) : Shuf n f (swp g i j) := by
  obtain ⟨σ, h1, h2⟩ := h
  refine ⟨_, h1.swap hi hj, fun k hk => ?_⟩
  unfold YbulkdvbsGreat.swp
  by_cases q1 : k = i
  · simp only [q1, if_true]; exact h2 j hj
  · by_cases q2 : k = j
    · simp only [q2, if_true]
      by_cases q3 : j = i
      · simp only [q3, if_true]; exact h2 i hi
      · simp only [q3, if_false]; exact h2 i hi
    · simp only [q1, q2, if_false]; exact h2 k hk

theorem meth_len (a : Addr) (w : World) : (method 449 225 (.pointer (some a)) "Len").run Ybaz.prog w = .ok (130, .pointer (some a)) w := by kernel_rfl
theorem meth_less (a : Addr) (w : World) : (method 449 225 (.pointer (some a)) "Less").run Ybaz.prog w = .ok (266, .pointer (some a)) w := by kernel_rfl
theorem meth_pop (a : Addr) (w : World) : (method 449 225 (.pointer (some a)) "Pop").run Ybaz.prog w = .ok (267, .pointer (some a)) w := by kernel_rfl
theorem meth_push (a : Addr) (w : World) : (method 449 225 (.pointer (some a)) "Push").run Ybaz.prog w = .ok (268, .pointer (some a)) w := by kernel_rfl
theorem meth_swap (a : Addr) (w : World) : (method 449 225 (.pointer (some a)) "Swap").run Ybaz.prog w = .ok (269, .pointer (some a)) w := by kernel_rfl
theorem hless_at {H : Nat} {a : Option Addr} {n c : Nat} {f : Nat → Nat} (w : World) (h : HP w H a n c f) (x y : Int) (hx : 0 ≤ x ∧ x < n) (hy : 0 ≤ y ∧ y < n) :
    Calls Ybaz.prog 266 #[.pointer (some ⟨H, 0, none⟩), .int .i64 x, .int .i64 y] w fun e w' => (∃ b : Bool, e = .returned (.bool b)) ∧ Keep (fun _ => False) w w' := by
  have := hless_any H a n c f x.toNat y.toNat w h (by omega) (by omega)
  rwa [show ((x.toNat : Nat) : Int) = x by omega, show ((y.toNat : Nat) : Int) = y by omega] at this
theorem hswap_at {H : Nat} {a : Option Addr} {n c : Nat} {f : Nat → Nat} (w : World) (h : HP w H a n c f) (x y : Int) (hx : 0 ≤ x ∧ x < n) (hy : 0 ≤ y ∧ y < n) :
    Calls Ybaz.prog 269 #[.pointer (some ⟨H, 0, none⟩), .int .i64 x, .int .i64 y] w fun e w' => e = .returned (.tuple #[]) ∧ HP w' H a n c (swp f x.toNat y.toNat) ∧ Keep (hOwn H a) w w' := by
  have := hswap_any H a n c f x.toNat y.toNat w h (by omega) (by omega)
  rwa [show ((x.toNat : Nat) : Int) = x by omega, show ((y.toNat : Nat) : Int) = y by omega] at this

set_option maxHeartbeats 4000000 in
set_option maxRecDepth 100000 in
theorem down_any (H : Nat) (a : Option Addr) (n c : Nat) (f : Nat → Nat) (i0 m : Nat) (w : World) (h : HP w H a n c f) (hn : n ≤ 5) (hm : m ≤ n) (hi : i0 < n) :
    Calls Ybaz.prog 193 #[.iface 225 (.pointer (some ⟨H, 0, none⟩)), .int .i64 (i0 : Int), .int .i64 (m : Int)] w fun e w' => (∃ b : Bool, e = .returned (.bool b)) ∧ (∃ g, HP w' H a n c g ∧ Shuf n f g) ∧ Keep (hOwn H a) w w' := by
  have HH : Hid _ := h
  have ml := meth_less
  have ms := meth_swap
  have HL := fun (W : World) {g : Nat → Nat} (hW : HP W H a n c g) => hless_at W hW
  have HW := fun (W : World) {g : Nat → Nat} (hW : HP W H a n c g) => hswap_at W hW
  clear h
  go_enter Ybaz.func193, Ybaz.ntmps193
  go_wp2
  go_loopg [7] (n - i0) (fun gk s wr => ∃ (i : Nat) (g : Nat → Nat), i < n ∧ s = .int .i64 (i : Int) ∧ gk = n - i ∧ Hid (HP wr H a n c g) ∧ Hid (Shuf n f g) ∧ Hid (Keep (hOwn H a) w wr))
  case atStart => exact ⟨i0, f, hi, rfl, rfl, HH, Shuf.refl _ _, Keep.refl _ _⟩
  case round =>
    obtain ⟨i, g, hi, rfl, HM, HV, HS, HK⟩ := hrel
    have i1 : (i : Int) < 5 := by omega
    have m1 : (m : Int) ≤ 5 := by omega
    by_cases h1 : 2 * i + 1 < m
    · have q1 : 2 * (i : Int) + 1 < (m : Int) := by omega
      by_cases h2 : 2 * i + 1 + 1 < m
      · have q2 : 2 * (i : Int) + 1 + 1 < (m : Int) := by omega
        go_wp2_with (first
          | (go_at_call 266; refine (HL wr HV.out _ _ (by omega) (by omega)).mono ?_; rintro e w2 ⟨⟨b2, rfl⟩, hk2⟩; have HV2 : Hid _ := HV.out.keep hk2 (fun _ _ q => q); have HK2 : Hid (Keep (hOwn H a) w w2) := HK.out.trans hk2 (fun _ q => q.elim); clear HV HK hk2)
          | (go_at_call 266; refine (HL w2 HV2.out _ _ (by omega) (by omega)).mono ?_; rintro e w3 ⟨⟨b3, rfl⟩, hk3⟩; have HV3 : Hid _ := HV2.out.keep hk3 (fun _ _ q => q); have HK3 : Hid (Keep (hOwn H a) w w3) := HK2.out.trans hk3 (fun _ q => q.elim); clear HV2 HK2 hk3)
          | (go_at_call 269; refine (HW w3 HV3.out _ _ (by omega) (by omega)).mono ?_; rintro e w4 ⟨rfl, hv4, hk4⟩; have HV4 : Hid _ := hv4; have HK4 : Hid (Keep (hOwn H a) w w4) := HK3.out.trans hk4 (fun _ q => .inl q); clear HV3 HK3 hv4 hk4))
        · go_ret
          exact ⟨⟨_, rfl⟩, ⟨_, HV3.out, HS.out⟩, HK3.out⟩
        · go_roundg (n - (2 * i + 1 + 1))
          case measure => omega
          case rel => exact ⟨2 * i + 1 + 1, _, by omega, by go_num, rfl, HV4, HS.out.swp _ _ (by omega) (by omega), HK4⟩
        · go_ret
          exact ⟨⟨_, rfl⟩, ⟨_, HV3.out, HS.out⟩, HK3.out⟩
        · go_roundg (n - (2 * i + 1))
          case measure => omega
          case rel => exact ⟨2 * i + 1, _, by omega, by go_num, rfl, HV4, HS.out.swp _ _ (by omega) (by omega), HK4⟩
      · have q2 : ¬ 2 * (i : Int) + 1 + 1 < (m : Int) := by omega
        go_wp2_with (first
          | (go_at_call 266; refine (HL wr HV.out _ _ (by omega) (by omega)).mono ?_; rintro e w3 ⟨⟨b3, rfl⟩, hk3⟩; have HV3 : Hid _ := HV.out.keep hk3 (fun _ _ q => q); have HK3 : Hid (Keep (hOwn H a) w w3) := HK.out.trans hk3 (fun _ q => q.elim); clear HV HK hk3)
          | (go_at_call 269; refine (HW w3 HV3.out _ _ (by omega) (by omega)).mono ?_; rintro e w4 ⟨rfl, hv4, hk4⟩; have HV4 : Hid _ := hv4; have HK4 : Hid (Keep (hOwn H a) w w4) := HK3.out.trans hk4 (fun _ q => .inl q); clear HV3 HK3 hv4 hk4))
        · go_ret
          exact ⟨⟨_, rfl⟩, ⟨_, HV3.out, HS.out⟩, HK3.out⟩
        · go_roundg (n - (2 * i + 1))
          case measure => omega
          case rel => exact ⟨2 * i + 1, _, by omega, by go_num, rfl, HV4, HS.out.swp _ _ (by omega) (by omega), HK4⟩
    · have q1 : (m : Int) ≤ 2 * (i : Int) + 1 := by omega
      go_wp2
      go_ret
      exact ⟨⟨_, rfl⟩, ⟨_, HV.out, HS.out⟩, HK.out⟩
end Go.Proofs.YbulkdvbsGreat

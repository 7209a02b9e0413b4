/-
  pickEach; Index and Min at []int; Reverse, walked.
-/
import Derived.Test.YbulkdvbsGreatCyc
namespace Go.Proofs.YbulkdvbsGreat
open Go.RowKit
attribute [local go_sem ↓] exec_make155

/-- Behind pickEach. -/
def PickOut (w w' : World) (m : Nat) (e : Ending) : Prop := ∃ (PK : Nat) (g : Nat → Int), e = .returned (.slice (some ⟨PK, 0, none⟩) m m) ∧ w.heap.size ≤ PK ∧ PK < w'.heap.size ∧ Row w' PK m (fun i => .int .u8 (g i))

set_option maxHeartbeats 2000000 in
set_option maxRecDepth 100000 in
theorem pick_any (a : Option Addr) (B o m c : Nat) (d : Nat → Int) (w : World) (hm : m ≤ 1000) (ha : 0 < m → a = some ⟨B, o, none⟩) (hB : B < w.heap.size) (hr : ∀ i, i < m → w.cell? ⟨B, o + i, none⟩ = some (.int .u8 (d i))) :
    Calls Ybaz.prog 142 #[.slice a m c] w fun e w' => PickOut w w' m e ∧ Keep (fun _ => False) w w' := by
  have n1 : (m : Int) ≤ 1000 := by omega
  have r155 := fun W => run_mkv 155 96 (.int .u8 0) 1 1 Ybaz.underlying155 inf96 (by omega) W m (by omega)
  have hb1 : (w.alloc (.cells (mc (.int .u8 0) 1 m) 96)).heap[w.heap.size]? = some (.cells (mc (.int .u8 0) 1 m) 96) := heap_alloc_new _ _
  have HR1 : Hid (Row (w.alloc (.cells (mc (.int .u8 0) 1 m) 96)) w.heap.size m (fun _ => .int .u8 0)) := Row.made1 _ _ _ _ 96 rfl hb1
  have HK1 : Hid (Keep (fun _ => False) w (w.alloc (.cells (mc (.int .u8 0) 1 m) 96))) := Keep.alloc _ w _
  have hl1 : w.heap.size < (w.alloc (.cells (mc (.int .u8 0) 1 m) 96)).heap.size := heap_lt hb1
  clear hb1
  go_enter Ybaz.func142, Ybaz.ntmps142
  go_wp2
  clear r155
  generalize w.alloc (.cells (mc (.int .u8 0) 1 m) 96) = w1 at *
  obtain ⟨PK, HPK⟩ : ∃ PK, Hid (w.heap.size = PK) := ⟨_, rfl⟩
  rw [HPK.out] at HR1 hl1 hB ⊢
  go_loopw [11] (fun s wr => ∃ (k : Nat) (g : Nat → Int), k ≤ m ∧ s = .int .i64 (k : Int) ∧ Hid (Row wr PK m (fun i => .int .u8 (g i))) ∧ Hid (Keep (fun b => b = PK) w1 wr)) (fun s _ => m - (intOf s).toNat)
  case atStart => exact ⟨0, fun _ => 0, Nat.zero_le _, rfl, HR1, Keep.refl _ _⟩
  case round =>
    obtain ⟨k, g, hk, rfl, HR, HK⟩ := hrel
    by_cases hlt : k < m
    · have k1 : (k : Int) < (m : Int) := by omega
      have k2 : (k : Int).toNat = k := by omega
      obtain rfl := ha (by omega)
      have e0 : wr.cell? ⟨B, o + k, none⟩ = some (.int .u8 (d k)) := ((HK.out.cell ⟨B, o + k, none⟩ (by show B < _; omega) (by show ¬ B = PK; omega)).trans (HK1.out.cell ⟨B, o + k, none⟩ (by show B < _; rw [HPK.out]; exact hB) (fun h => h))).trans (hr k hlt)
      have e1 := HR.out.cell k hlt
      have f1 := HR.out.free k
      go_wp2
      go_roundw
      case rel => exact ⟨k + 1, fun i => if i = k then _ else g i, by omega, by go_num, (HR.out.set k _ hlt).congr (fun i _ => by
        by_cases e : i = k
        · simp only [e, if_true]; rfl
        · simp only [e, if_false]), HK.out.trans (Keep.setCell wr ⟨PK, k, none⟩ _) (fun _ h => .inl h)⟩
      case measure => simp [intOf]; omega
    · have e : m = k := by omega
      subst e
      have sz3 := HK.out.size
      have hKK : Keep (fun _ => False) w wr := HK1.out.trans HK.out (fun b q => .inr (by have := HPK.out; omega))
      go_wp2
      go_ret
      exact ⟨⟨PK, g, rfl, by have := HPK.out; omega, by omega, HR.out⟩, hKK⟩

set_option maxHeartbeats 2000000 in
set_option maxRecDepth 100000 in
/-- slices.Index of what is there. -/
theorem indexI (b m c : Nat) (f : Nat → Int) (x : Int) (j : Nat) (w : World) (hm : m ≤ 100000) (hr : ∀ i, i < m → w.cell? ⟨b, i, none⟩ = some (.int .i64 (f i))) (hj : j < m) (hx : f j = x) :
    Calls Ybaz.prog 143 #[.slice (some ⟨b, 0, none⟩) m c, .int .i64 x] w fun e w' => (∃ u : Nat, e = .returned (.int .i64 (u : Int)) ∧ u < m) ∧ w = w' := by
  have n1 : (m : Int) ≤ 100000 := by omega
  have Hx : Hid (f j = x) := hx
  clear hx
  go_enter Ybaz.func143, Ybaz.ntmps143
  go_wp2
  go_loopw [8] (fun s wr => ∃ k : Nat, k ≤ j ∧ s = .int .i64 (k : Int) ∧ w = wr) (fun s _ => m - (intOf s).toNat)
  case atStart => exact ⟨0, Nat.zero_le _, rfl, rfl⟩
  case round =>
    obtain ⟨k, hk, rfl, rfl⟩ := hrel
    have hlt : k < m := by omega
    have k1 : (k : Int) < (m : Int) := by omega
    have k2 : (k : Int).toNat = k := by omega
    have e0 := hr k hlt
    by_cases hf : x = f k
    · have hf2 : (x == f k) = true := by simpa using hf
      clear hf
      go_wp2
      go_ret
      exact ⟨⟨k, rfl, hlt⟩, rfl⟩
    · have hf2 : (x == f k) = false := by simpa using hf
      have hkj : k ≠ j := fun q => by subst q; exact hf Hx.out.symm
      go_wp2
      go_roundw
      case rel => exact ⟨k + 1, by omega, by go_num, trivial⟩
      case measure => simp [intOf]; omega

set_option maxHeartbeats 2000000 in
set_option maxRecDepth 100000 in
/-- slices.Min: one of them. -/
theorem minI (b m c : Nat) (f : Nat → Int) (w : World) (hm : m ≤ 100000) (hm1 : 1 ≤ m) (hr : ∀ i, i < m → w.cell? ⟨b, i, none⟩ = some (.int .i64 (f i))) :
    Calls Ybaz.prog 144 #[.slice (some ⟨b, 0, none⟩) m c] w fun e w' => (∃ u : Nat, e = .returned (.int .i64 (f u)) ∧ u < m) ∧ w = w' := by
  have n1 : (m : Int) ≤ 100000 := by omega
  have n2 : ¬ (m : Int) < 1 := by omega
  have n3 : (0 : Int) < (m : Int) := by omega
  have e0 := hr 0 (by omega)
  go_enter Ybaz.func144, Ybaz.ntmps144
  go_wp2
  go_loopw [3, 4] (fun s3 s wr => ∃ k u : Nat, k < m ∧ u < m ∧ s3 = .int .i64 (f u) ∧ s = .int .i64 ((k : Int) + 1) ∧ w = wr) (fun _ s _ => m - (intOf s).toNat)
  case atStart => exact ⟨0, 0, by omega, by omega, rfl, rfl, rfl⟩
  case round =>
    clear e0
    obtain ⟨k, u, hk, hu, rfl, rfl, rfl⟩ := hrel
    by_cases hlt : k + 1 < m
    · have k1 : (k : Int) + 1 < (m : Int) := by omega
      have k2 : ((k : Int) + 1).toNat = k + 1 := by omega
      have k3 : (0 : Int) ≤ (k : Int) + 1 := by omega
      have e0 := hr (k + 1) hlt
      go_wp2
      go_roundw
      case rel =>
        by_cases q : f (k + 1) < f u
        · exact ⟨k + 1, k + 1, hlt, hlt, by rw [if_pos q], by push_cast; rfl, trivial⟩
        · exact ⟨k + 1, u, hlt, hu, by rw [if_neg q], by push_cast; rfl, trivial⟩
      case measure => simp [intOf]; omega
    · have k1 : ¬ (k : Int) + 1 < (m : Int) := by omega
      go_wp2
      go_ret
      exact ⟨⟨u, rfl, hu⟩, rfl⟩

set_option maxHeartbeats 2000000 in
set_option maxRecDepth 100000 in
/-- slices.Reverse: the places are turned about. -/
theorem rev_i64 (a : Option Addr) (b m c : Nat) (x : Nat → Int) (w : World) (hm : m ≤ 1000) (ha : 0 < m → a = some ⟨b, 0, none⟩) (hr : Row w b m (fun i => .int .i64 (x i))) :
    Calls Ybaz.prog 230 #[.slice a m c] w fun e w' => e = .returned (.tuple #[]) ∧ ∃ σ : Nat → Nat, (∀ i, i < m → σ i < m) ∧ Row w' b m (fun i => .int .i64 (x (σ i))) ∧ Keep (fun k => k = b) w w' := by
  have hm2 : (m : Int) ≤ 1000 := by omega
  go_enter Ybaz.func230, Ybaz.ntmps230
  go_wp2
  go_loopw [2, 3] (fun s t wr => ∃ (k : Nat) (σ : Nat → Nat), k ≤ m ∧ s = .int .i64 (k : Int) ∧ t = .int .i64 ((m : Int) - 1 - k) ∧ Hid (∀ i, i < m → σ i < m) ∧ Hid (Row wr b m (fun i => (.int .i64 (x (σ i))))) ∧ Hid (Keep (fun k => k = b) w wr)) (fun s _ _ => m - (intOf s).toNat)
  case atStart => exact ⟨0, fun i => i, by omega, rfl, by go_num, fun i hi => hi, hr, Keep.refl _ _⟩
  case round =>
    obtain ⟨k, σ, hk, rfl, rfl, HB, HR, HK⟩ := hrel
    clear hr
    by_cases hlt : (k : Int) < (m : Int) - 1 - k
    · obtain ⟨j, hj⟩ : ∃ j : Nat, Hid ((m : Int) - 1 - k = (j : Int)) := ⟨m - 1 - k, by show (m : Int) - 1 - k = _; omega⟩
      rw [hj.out] at hlt ⊢
      have hjm : j < m := by have := hj.out; omega
      have hkm : k < m := by omega
      obtain rfl := ha (by omega)
      have k1 : (k : Int) < (m : Int) := by omega
      have k2 : (k : Int).toNat = k := by omega
      have j1 : (j : Int) < (m : Int) := by omega
      have j2 : (j : Int).toNat = j := by omega
      have e0 := HR.out.cell k hkm
      have e1 := HR.out.cell j hjm
      have f0 := HR.out.free k
      have f1 := HR.out.free j
      have hkj : k ≠ j := by omega
      have hkj2 : ¬ j = k := by omega
      have HR2 : Hid (Row ((wr.setCell ⟨b, k, none⟩ (.int .i64 (x (σ j)))).setCell ⟨b, j, none⟩ (.int .i64 (x (σ k)))) b m (fun i => .int .i64 (x ((fun i => if i = j then σ k else if i = k then σ j else σ i) i)))) := ((HR.out.set k (.int .i64 (x (σ j))) hkm).set j (.int .i64 (x (σ k))) hjm).congr (fun i hi => by
        dsimp only
        split
        · rfl
        · split <;> rfl)
      have HK2 : Hid (Keep (fun k => k = b) w ((wr.setCell ⟨b, k, none⟩ (.int .i64 (x (σ j)))).setCell ⟨b, j, none⟩ (.int .i64 (x (σ k))))) := (HK.out.trans (Keep.setCell wr ⟨b, k, none⟩ _) (fun _ h => .inl h)).trans (Keep.setCell _ ⟨b, j, none⟩ _) (fun _ h => .inl h)
      have jw : IntKind.i64.wrap ((j : Int) - 1) = (m : Int) - 1 - ((k + 1 : Nat) : Int) := by rw [IntKind.wrap_i64]; have := hj.out; omega
      go_wp2
      go_region
      go_wp2
      go_roundw
      case rel => exact ⟨k + 1, _, by omega, by go_num, by first | rfl | (congr 1; have := hj.out; omega), (fun i hi => by
        have h1 := HB.out k hkm
        have h2 := HB.out j hjm
        have h3 := HB.out i hi
        show (if i = j then σ k else if i = k then σ j else σ i) < m
        split
        · exact h1
        · split
          · exact h2
          · exact h3), ⟨HR2.out.cell, HR2.out.free⟩, ⟨HK2.out.os, HK2.out.tape, HK2.out.output, HK2.out.size, HK2.out.block⟩⟩
      case measure => simp [intOf]; omega
    · go_wp2
      go_end0
      exact ⟨rfl, σ, HB.out, HR.out, HK.out⟩

set_option maxHeartbeats 2000000 in
set_option maxRecDepth 100000 in
/-- slices.Reverse: the places are turned about. -/
theorem rev_u8 (a : Option Addr) (b m c : Nat) (x : Nat → Int) (w : World) (hm : m ≤ 1000) (ha : 0 < m → a = some ⟨b, 0, none⟩) (hr : Row w b m (fun i => .int .u8 (x i))) :
    Calls Ybaz.prog 231 #[.slice a m c] w fun e w' => e = .returned (.tuple #[]) ∧ ∃ σ : Nat → Nat, (∀ i, i < m → σ i < m) ∧ Row w' b m (fun i => .int .u8 (x (σ i))) ∧ Keep (fun k => k = b) w w' := by
  have hm2 : (m : Int) ≤ 1000 := by omega
  go_enter Ybaz.func231, Ybaz.ntmps231
  go_wp2
  go_loopw [2, 3] (fun s t wr => ∃ (k : Nat) (σ : Nat → Nat), k ≤ m ∧ s = .int .i64 (k : Int) ∧ t = .int .i64 ((m : Int) - 1 - k) ∧ Hid (∀ i, i < m → σ i < m) ∧ Hid (Row wr b m (fun i => (.int .u8 (x (σ i))))) ∧ Hid (Keep (fun k => k = b) w wr)) (fun s _ _ => m - (intOf s).toNat)
  case atStart => exact ⟨0, fun i => i, by omega, rfl, by go_num, fun i hi => hi, hr, Keep.refl _ _⟩
  case round =>
    obtain ⟨k, σ, hk, rfl, rfl, HB, HR, HK⟩ := hrel
    clear hr
    by_cases hlt : (k : Int) < (m : Int) - 1 - k
    · obtain ⟨j, hj⟩ : ∃ j : Nat, Hid ((m : Int) - 1 - k = (j : Int)) := ⟨m - 1 - k, by show (m : Int) - 1 - k = _; omega⟩
      rw [hj.out] at hlt ⊢
      have hjm : j < m := by have := hj.out; omega
      have hkm : k < m := by omega
      obtain rfl := ha (by omega)
      have k1 : (k : Int) < (m : Int) := by omega
      have k2 : (k : Int).toNat = k := by omega
      have j1 : (j : Int) < (m : Int) := by omega
      have j2 : (j : Int).toNat = j := by omega
      have e0 := HR.out.cell k hkm
      have e1 := HR.out.cell j hjm
      have f0 := HR.out.free k
      have f1 := HR.out.free j
      have hkj : k ≠ j := by omega
      have hkj2 : ¬ j = k := by omega
      have HR2 : Hid (Row ((wr.setCell ⟨b, k, none⟩ (.int .u8 (x (σ j)))).setCell ⟨b, j, none⟩ (.int .u8 (x (σ k)))) b m (fun i => .int .u8 (x ((fun i => if i = j then σ k else if i = k then σ j else σ i) i)))) := ((HR.out.set k (.int .u8 (x (σ j))) hkm).set j (.int .u8 (x (σ k))) hjm).congr (fun i hi => by
        dsimp only
        split
        · rfl
        · split <;> rfl)
      have HK2 : Hid (Keep (fun k => k = b) w ((wr.setCell ⟨b, k, none⟩ (.int .u8 (x (σ j)))).setCell ⟨b, j, none⟩ (.int .u8 (x (σ k))))) := (HK.out.trans (Keep.setCell wr ⟨b, k, none⟩ _) (fun _ h => .inl h)).trans (Keep.setCell _ ⟨b, j, none⟩ _) (fun _ h => .inl h)
      have jw : IntKind.i64.wrap ((j : Int) - 1) = (m : Int) - 1 - ((k + 1 : Nat) : Int) := by rw [IntKind.wrap_i64]; have := hj.out; omega
      go_wp2
      go_region
      go_wp2
      go_roundw
      case rel => exact ⟨k + 1, _, by omega, by go_num, by first | rfl | (congr 1; have := hj.out; omega), (fun i hi => by
        have h1 := HB.out k hkm
        have h2 := HB.out j hjm
        have h3 := HB.out i hi
        show (if i = j then σ k else if i = k then σ j else σ i) < m
        split
        · exact h1
        · split
          · exact h2
          · exact h3), ⟨HR2.out.cell, HR2.out.free⟩, ⟨HK2.out.os, HK2.out.tape, HK2.out.output, HK2.out.size, HK2.out.block⟩⟩
      case measure => simp [intOf]; omega
    · go_wp2
      go_end0
      exact ⟨rfl, σ, HB.out, HR.out, HK.out⟩
end Go.Proofs.YbulkdvbsGreat

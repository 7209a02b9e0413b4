/-
  Index and Contains at []bool; cyclicNodes, walked.
-/
import Derived.Test.YbulkdvbsGreatFoll
namespace Go.Proofs.YbulkdvbsGreat
open Go.RowKit
attribute [local go_sem ↓] exec_make95 exec_make86

set_option maxHeartbeats 2000000 in
set_option maxRecDepth 100000 in
/-- slices.Index of 'true'. -/
theorem indexB (b n c : Nat) (f : Nat → Bool) (w : World) (hn : n ≤ 100000) (hr : ∀ i, i < n → w.cell? ⟨b, i, none⟩ = some (.bool (f i))) :
    Calls Ybaz.prog 136 #[.slice (some ⟨b, 0, none⟩) n c, .bool true] w fun e w' => (∃ r : Int, e = .returned (.int .i64 r) ∧ (r = -1 ∨ ∃ u : Nat, r = (u : Int) ∧ u < n ∧ f u = true)) ∧ w = w' := by
  have n1 : (n : Int) ≤ 100000 := by omega
  go_enter Ybaz.func136, Ybaz.ntmps136
  go_wp2
  go_loopw [8] (fun s wr => ∃ k : Nat, k ≤ n ∧ s = .int .i64 (k : Int) ∧ w = wr) (fun s _ => n - (intOf s).toNat)
  case atStart => exact ⟨0, Nat.zero_le _, rfl, rfl⟩
  case round =>
    obtain ⟨k, hk, rfl, rfl⟩ := hrel
    by_cases hlt : k < n
    · have k1 : (k : Int) < (n : Int) := by omega
      have k2 : (k : Int).toNat = k := by omega
      have e0 := hr k hlt
      cases hf : f k with
      | true =>
        rw [hf] at e0
        go_wp2
        go_ret
        exact ⟨⟨(k : Int), rfl, .inr ⟨k, rfl, hlt, hf⟩⟩, rfl⟩
      | false =>
        rw [hf] at e0
        go_wp2
        go_roundw
        case rel => exact ⟨k + 1, by omega, by go_num, trivial⟩
        case measure => simp [intOf]; omega
    · have e : n = k := by omega
      subst e
      go_wp2
      go_ret
      exact ⟨⟨-1, rfl, .inl rfl⟩, rfl⟩

set_option maxHeartbeats 2000000 in
set_option maxRecDepth 100000 in
/-- slices.Contains of 'true'. -/
theorem containsB (b n c : Nat) (f : Nat → Bool) (w : World) (hn : n ≤ 100000) (hr : ∀ i, i < n → w.cell? ⟨b, i, none⟩ = some (.bool (f i))) :
    Calls Ybaz.prog 140 #[.slice (some ⟨b, 0, none⟩) n c, .bool true] w fun e w' => (∃ r : Bool, e = .returned (.bool r) ∧ (r = true → ∃ u, u < n ∧ f u = true)) ∧ w = w' := by
  have HI := fun _ : Unit => indexB b n c f w hn hr
  clear hr
  go_enter Ybaz.func140, Ybaz.ntmps140
  go_wp2_with (first
    | (go_at_call 136; refine (HI ()).mono ?_; rintro e w2 ⟨⟨r, rfl, hr⟩, rfl⟩))
  go_ret
  refine ⟨⟨decide (0 ≤ r), rfl, fun h => ?_⟩, rfl⟩
  rcases hr with rfl | ⟨u, rfl, h1, h2⟩
  · simp at h
  · exact ⟨u, h1, h2⟩

/-- Is u on a cycle, by the numbers of the components? -/
def cyc (comp : Nat → Int) (n u : Nat) : Bool := decide (0 ≤ comp u) && decide (1 < cnt comp (comp u).toNat n)
theorem cnt_two (src : Nat → Int) (c u : Nat) : ∀ n, 1 < cnt src c n → ∃ v, v < n ∧ v ≠ u ∧ src v = (c : Int)
  | 0, h => by simp [cnt] at h
  | n + 1, h => by
    by_cases h1 : src n = (c : Int)
    · by_cases h2 : n = u
      · have h3 : 0 < cnt src c n := by
          have : cnt src c (n + 1) = cnt src c n + 1 := by show cnt src c n + _ = _; rw [if_pos h1]
          omega
        obtain ⟨v, hv, hv2⟩ := cnt_pos src c n h3
        exact ⟨v, by omega, by omega, hv2⟩
      · exact ⟨n, by omega, h2, h1⟩
    · have : cnt src c (n + 1) = cnt src c n := by show cnt src c n + _ = _; rw [if_neg h1]; rfl
      obtain ⟨v, h4, h5⟩ := cnt_two src c u n (by omega)
      exact ⟨v, by omega, h5⟩
where
  cnt_pos (src : Nat → Int) (c : Nat) : ∀ n, 0 < cnt src c n → ∃ v, v < n ∧ src v = (c : Int)
    | 0, h => by simp [cnt] at h
    | n + 1, h => by
      by_cases h1 : src n = (c : Int)
      · exact ⟨n, by omega, h1⟩
      · have : cnt src c (n + 1) = cnt src c n := by show cnt src c n + _ = _; rw [if_neg h1]; rfl
        obtain ⟨v, h4, h5⟩ := cnt_pos src c n (by omega)
        exact ⟨v, by omega, h5⟩
theorem cyc_two (comp : Nat → Int) (n u : Nat) (h : cyc comp n u = true) : 0 ≤ comp u ∧ ∃ v, v < n ∧ v ≠ u ∧ comp v = comp u := by
  simp [cyc] at h
  obtain ⟨v, h1, h2, h3⟩ := cnt_two comp (comp u).toNat u n h.2
  exact ⟨h.1, v, h1, h2, by omega⟩

/-- Behind cyclicNodes. -/
def CycOut (w w' : World) (n : Nat) (comp : Nat → Int) (e : Ending) : Prop := ∃ CY, e = .returned (.slice (some ⟨CY, 0, none⟩) n n) ∧ w.heap.size ≤ CY ∧ CY < w'.heap.size ∧ Row w' CY n (fun i => .bool (cyc comp n i))
set_option maxHeartbeats 4000000 in
set_option maxRecDepth 100000 in
theorem cyclic_any (CO n cc : Nat) (comp : Nat → Int) (w : World) (hn : n ≤ 5) (hr : Row w CO n (fun i => .int .i32 (comp i))) (hCO : CO < w.heap.size) (hc : ∀ i, i < n → -1 ≤ comp i ∧ comp i < n) :
    Calls Ybaz.prog 137 #[.slice (some ⟨CO, 0, none⟩) n cc] w fun e w' => CycOut w w' n comp e ∧ Keep (fun _ => False) w w' := by
  have n1 : (n : Int) ≤ 5 := by omega
  have r95 := fun W => run_mkv 95 21 (.int .i32 0) 1 4 Ybaz.underlying95 inf21 (by omega) W n (by omega)
  have r86 := fun W => run_mkv 86 4 (.bool false) 1 1 Ybaz.underlying86 inf4 (by omega) W n (by omega)
  have hb1 : (w.alloc (.cells (mc (.int .i32 0) 1 n) 21)).heap[w.heap.size]? = some (.cells (mc (.int .i32 0) 1 n) 21) := heap_alloc_new _ _
  have HR1 : Hid (Row (w.alloc (.cells (mc (.int .i32 0) 1 n) 21)) w.heap.size n (fun _ => .int .i32 0)) := Row.made1 _ _ _ _ 21 rfl hb1
  have HK1 : Hid (Keep (fun _ => False) w (w.alloc (.cells (mc (.int .i32 0) 1 n) 21))) := Keep.alloc _ w _
  have HC1 : Hid (Row (w.alloc (.cells (mc (.int .i32 0) 1 n) 21)) CO n (fun i => .int .i32 (comp i))) := hr.keep (Below.heap_alloc _ _ _ hCO)
  have hCO1 : CO < (w.alloc (.cells (mc (.int .i32 0) 1 n) 21)).heap.size := by simp; omega
  have hSZ1 : w.heap.size < (w.alloc (.cells (mc (.int .i32 0) 1 n) 21)).heap.size := heap_lt hb1
  clear hb1 hr
  go_enter Ybaz.func137, Ybaz.ntmps137
  go_wp2
  clear r95
  generalize w.alloc (.cells (mc (.int .i32 0) 1 n) 21) = w1 at *
  obtain ⟨SZ, HSZ⟩ : ∃ SZ, Hid (w.heap.size = SZ) := ⟨_, rfl⟩
  rw [HSZ.out] at HR1 hCO hSZ1 ⊢
  go_loopw [14] (fun s wr => ∃ k : Nat, k ≤ n ∧ s = .int .i64 (k : Int) ∧ Hid (Row wr SZ n (fun i => .int .i32 (cnt comp i k : Int))) ∧ Hid (Keep (fun b => b = SZ) w1 wr)) (fun s _ => n - (intOf s).toNat)
  case atStart => exact ⟨0, Nat.zero_le _, rfl, HR1.out.congr (fun i _ => by simp [cnt]), Keep.refl _ _⟩
  case round =>
    obtain ⟨k, hk, rfl, HR, HK⟩ := hrel
    by_cases hlt : k < n
    · have k1 : (k : Int) < (n : Int) := by omega
      have k2 : (k : Int).toNat = k := by omega
      have sz1 := HK1.out.size
      have e0 : wr.cell? ⟨CO, k, none⟩ = some (.int .i32 (comp k)) := (HK.out.cell ⟨CO, k, none⟩ (by show CO < _; omega) (by show ¬ CO = SZ; omega)).trans (HC1.out.cell k hlt)
      obtain ⟨hc1, hc2⟩ := hc k hlt
      by_cases hneg : comp k = -1
      · rw [hneg] at e0
        go_wp2
        go_roundw
        case rel => exact ⟨k + 1, by omega, by go_num, HR.out.congr (fun i _ => by
          have : ¬ comp k = (i : Int) := by omega
          simp only [cnt, if_neg this, Nat.add_zero]), HK⟩
        case measure => simp [intOf]; omega
      · obtain ⟨c, hcc⟩ : ∃ c : Nat, Hid (comp k = (c : Int)) := ⟨(comp k).toNat, by show comp k = _; omega⟩
        have hcn : c < n := by have := hcc.out; omega
        rw [hcc.out] at e0
        obtain ⟨C, hC⟩ : ∃ C, Hid (C = cnt comp c k) := ⟨_, rfl⟩
        have hC5 : C ≤ k := by rw [hC.out]; exact cnt_le comp c k
        have e1 : wr.cell? ⟨SZ, c, none⟩ = some (.int .i32 (C : Int)) := by rw [hC.out]; exact HR.out.cell c hcn
        have f1 := HR.out.free c
        have q1 : (c : Int) < (n : Int) := by omega
        have q2 : (c : Int).toNat = c := by omega
        have q3 : IntKind.i32.wrap ((C : Int) + 1) = (C : Int) + 1 := by unfold IntKind.wrap; simp [IntKind.bits, IntKind.signed]; omega
        have HR2 : Hid (Row (wr.setCell ⟨SZ, c, none⟩ (.int .i32 ((C : Int) + 1))) SZ n (fun i => .int .i32 (cnt comp i (k + 1) : Int))) := (HR.out.set c (.int .i32 ((C : Int) + 1)) hcn).congr (fun i _ => by
          by_cases e : i = c
          · subst e; simp [cnt, hcc.out, hC.out]
          · have : ¬ comp k = (i : Int) := by have := hcc.out; omega
            simp only [e, if_false, cnt, if_neg this, Nat.add_zero])
        have HK2 : Hid (Keep (fun b => b = SZ) w1 (wr.setCell ⟨SZ, c, none⟩ (.int .i32 ((C : Int) + 1)))) := HK.out.trans (Keep.setCell wr ⟨SZ, c, none⟩ _) (fun _ h => .inl h)
        go_wp2
        go_roundw
        case rel => exact ⟨k + 1, by omega, by go_num, HR2, HK2⟩
        case measure => simp [intOf]; omega
    · have e : n = k := by omega
      subst e
      have sz1 := HK1.out.size
      have sz2 := HK.out.size
      have hb2 : (wr.alloc (.cells (mc (.bool false) 1 n) 4)).heap[wr.heap.size]? = some (.cells (mc (.bool false) 1 n) 4) := heap_alloc_new _ _
      have HRb : Hid (Row (wr.alloc (.cells (mc (.bool false) 1 n) 4)) wr.heap.size n (fun _ => .bool false)) := Row.made1 _ _ _ _ 4 rfl hb2
      have lb := heap_lt hb2
      have HK3 : Hid (Keep (fun b => b = SZ) w1 (wr.alloc (.cells (mc (.bool false) 1 n) 4))) := HK.out.trans (Keep.alloc (fun _ => False) _ _) (fun _ q => q.elim)
      have HS3 : Hid (Row (wr.alloc (.cells (mc (.bool false) 1 n) 4)) SZ n (fun i => .int .i32 (cnt comp i n : Int))) := HR.out.keep (Below.heap_alloc _ _ _ (by omega))
      have HC3 : Hid (Row (wr.alloc (.cells (mc (.bool false) 1 n) 4)) CO n (fun i => .int .i32 (comp i))) := HC1.out.keep (HK3.out.block CO (by omega) (by show ¬ CO = SZ; omega))
      clear hb2
      go_upto_region 10 with fail
      generalize wr.alloc (.cells (mc (.bool false) 1 n) 4) = w2 at *
      obtain ⟨CY, HCY⟩ : ∃ CY, Hid (wr.heap.size = CY) := ⟨_, rfl⟩
      rw [HCY.out] at HRb lb sz2 ⊢
      clear HR HK HR1 HC1
      go_loopw [32] (fun s wr => ∃ k : Nat, k ≤ n ∧ s = .int .i64 (k : Int) ∧ Hid (Row wr CY n (fun i => .bool (if i < k then cyc comp n i else false))) ∧ Hid (Keep (fun b => b = CY) w2 wr)) (fun s _ => n - (intOf s).toNat)
      case atStart => exact ⟨0, Nat.zero_le _, rfl, HRb.out.congr (fun i _ => by simp), Keep.refl _ _⟩
      case round =>
        obtain ⟨k, hk, rfl, HR, HK⟩ := hrel
        by_cases hlt : k < n
        · have k1 : (k : Int) < (n : Int) := by omega
          have k2 : (k : Int).toNat = k := by omega
          have e0 : wr.cell? ⟨CO, k, none⟩ = some (.int .i32 (comp k)) := (HK.out.cell ⟨CO, k, none⟩ (by show CO < _; omega) (by show ¬ CO = CY; omega)).trans (HC3.out.cell k hlt)
          obtain ⟨hc1, hc2⟩ := hc k hlt
          have f1 := HR.out.free k
          have e2 := HR.out.cell k hlt
          by_cases hneg : comp k = -1
          · rw [hneg] at e0
            have HR2 : Hid (Row (wr.setCell ⟨CY, k, none⟩ (.bool false)) CY n (fun i => .bool (if i < k + 1 then cyc comp n i else false))) := (HR.out.set k (.bool false) hlt).congr (fun i _ => by
              by_cases e : i = k
              · subst e; simp [cyc, hneg]
              · simp only [e, if_false, show (i < k + 1) ↔ (i < k) by omega])
            have HK2 : Hid (Keep (fun b => b = CY) w2 (wr.setCell ⟨CY, k, none⟩ (.bool false))) := HK.out.trans (Keep.setCell wr ⟨CY, k, none⟩ _) (fun _ h => .inl h)
            go_wp2
            go_roundw
            case rel => exact ⟨k + 1, by omega, by go_num, HR2, HK2⟩
            case measure => simp [intOf]; omega
          · obtain ⟨c, hcc⟩ : ∃ c : Nat, Hid (comp k = (c : Int)) := ⟨(comp k).toNat, by show comp k = _; omega⟩
            have hcn : c < n := by have := hcc.out; omega
            rw [hcc.out] at e0
            obtain ⟨C, hC⟩ : ∃ C, Hid (C = cnt comp c n) := ⟨_, rfl⟩
            have e1 : wr.cell? ⟨SZ, c, none⟩ = some (.int .i32 (C : Int)) := (HK.out.cell ⟨SZ, c, none⟩ (by show SZ < _; omega) (by show ¬ SZ = CY; omega)).trans (by rw [hC.out]; exact HS3.out.cell c hcn)
            have q1 : (c : Int) < (n : Int) := by omega
            have q2 : (c : Int).toNat = c := by omega
            have q3 : (0 : Int) ≤ (c : Int) := by omega
            have HR2 : Hid (Row (wr.setCell ⟨CY, k, none⟩ (.bool (decide (1 < (C : Int))))) CY n (fun i => .bool (if i < k + 1 then cyc comp n i else false))) := (HR.out.set k (.bool (decide (1 < (C : Int)))) hlt).congr (fun i _ => by
              by_cases e : i = k
              · subst e
                have e1 : (1 < cnt comp c n) ↔ (1 < (C : Int)) := by rw [← hC.out]; omega
                simp [cyc, hcc.out, e1]
              · simp only [e, if_false, show (i < k + 1) ↔ (i < k) by omega])
            have HK2 : Hid (Keep (fun b => b = CY) w2 (wr.setCell ⟨CY, k, none⟩ (.bool (decide (1 < (C : Int)))))) := HK.out.trans (Keep.setCell wr ⟨CY, k, none⟩ _) (fun _ h => .inl h)
            go_wp2
            go_roundw
            case rel => exact ⟨k + 1, by omega, by go_num, HR2, HK2⟩
            case measure => simp [intOf]; omega
        · have e : n = k := by omega
          subst e
          have sz3 := HK.out.size
          have hKK : Keep (fun _ => False) w wr := (HK1.out.trans HK3.out (fun b q => .inr (by have := HSZ.out; omega))).trans HK.out (fun b q => .inr (by have := HSZ.out; omega))
          go_wp2
          go_ret
          exact ⟨⟨CY, rfl, by have := HSZ.out; omega, by omega, HR.out.congr (fun i hi => by simp [hi])⟩, hKK⟩
end Go.Proofs.YbulkdvbsGreat

/-
  newSegmentTree and newWriters, walked.
-/
import Derived.Test.YbulkdvbsGreatLink
import Derived.Laws.IdiomCopy
namespace Go.Proofs.YbulkdvbsGreat
open Go.RowKit
attribute [local go_sem ↓] exec_make62 exec_make63

theorem Row.made1 (w : World) (L n : Nat) (z : Value) (e : TypeId) (hz : z.cells = #[z]) (h : w.heap[L]? = some (.cells (mc z 1 n) e)) : Row w L n (fun _ => z) := by
  refine ⟨fun i hi => ?_, fun i => free_of w L i _ _ h⟩
  rw [cell_of w L i _ _ h, mc_at z 1 n i (by rw [hz]; rfl) (by omega), hz, Nat.mod_one]
  rfl

/-- Block b holds cells of type t. -/
def IsTy (w : World) (b : Nat) (t : TypeId) : Prop := ∃ cs, w.heap[b]? = some (.cells cs t)
theorem IsTy.setCell {w : World} {b : Nat} {t : TypeId} (h : IsTy w b t) (i : Nat) (v : Value) : IsTy (w.setCell ⟨b, i, none⟩ v) b t := by obtain ⟨cs, h⟩ := h; exact ⟨_, heap_set w b i v _ _ h⟩
theorem IsTy.setCells {b : Nat} {t : TypeId} : ∀ (vs : List Value) (o : Nat) {w : World}, IsTy w b t → IsTy (w.setCells b o vs) b t
  | [], _, _, h => h
  | v :: vs, o, _, h => IsTy.setCells vs (o + 1) (h.setCell o v)
theorem Keep.setCells (b : Nat) : ∀ (vs : List Value) (o : Nat) (w : World), Keep (fun k => k = b) w (w.setCells b o vs)
  | [], _, w => Keep.refl _ w
  | v :: vs, o, w => (Keep.setCell w ⟨b, o, none⟩ v).trans (Keep.setCells b vs (o + 1) _) (fun _ h => .inl h)

/-- A tree of the call's own. -/
def NewTree (G m n : Nat) (down : Bool) (w w' : World) (TR : Nat) : Prop := ∃ NB nd, ST w' TR G down m n NB nd ∧ Keep (fun _ => False) w w' ∧ w.heap.size ≤ TR ∧ w.heap.size ≤ NB
set_option maxHeartbeats 4000000 in
set_option maxRecDepth 100000 in
theorem newTree_any (G m EB n : Nat) (down : Bool) (w : World) (hm : m ≤ 3) (he : Row w EB m (fun _ => .int .i64 (-1))) (hEB : EB < w.heap.size) :
    Calls Ybaz.prog 108 #[.pointer (some ⟨G, 0, none⟩), .slice (some ⟨EB, 0, none⟩) m m, .bool down] w fun e w' => ∃ TR, e = .returned (.pointer (some ⟨TR, 0, none⟩)) ∧ NewTree G m n down w w' TR := by
  have m1 : (m : Int) ≤ 3 := by omega
  have r62 : ∀ W, (opMk 62 (.int .i64 (2 * (m : Int))) (.int .i64 (2 * (m : Int)))).run Ybaz.prog W = .ok (.value (.slice (some ⟨W.heap.size, 0, none⟩) (m + m) (m + m))) (W.alloc (.cells (mc (.int .i64 0) 1 (m + m)) 3)) := fun W => by
    have := run_mkv 62 3 (.int .i64 0) 1 8 Ybaz.underlying62 inf3 (by omega) W (m + m) (by omega)
    rw [show ((m + m : Nat) : Int) = 2 * (m : Int) by omega] at this
    exact this
  obtain ⟨W2, hW2⟩ : ∃ W2, W2 = (w.alloc (.cells (mc (.int .i64 0) 1 (m + m)) 3)).alloc (.cells #[.pointer (some ⟨G, 0, none⟩), .bool down, .slice (some ⟨w.heap.size, 0, none⟩) (m + m) (m + m)] 269) := ⟨_, rfl⟩
  have k2 : Keep (fun _ => False) w W2 := by rw [hW2]; exact (Keep.alloc _ w _).trans (Keep.alloc (fun _ => False) _ _) (fun _ q => q.elim)
  have hN : W2.heap[w.heap.size]? = some (.cells (mc (.int .i64 0) 1 (m + m)) 3) := by rw [hW2]; exact heap_grow _ (heap_alloc_new _ _)
  have hT : W2.heap[w.heap.size + 1]? = some (.cells #[.pointer (some ⟨G, 0, none⟩), .bool down, .slice (some ⟨w.heap.size, 0, none⟩) (m + m) (m + m)] 269) := by rw [hW2]; have := heap_alloc_new (w.alloc (.cells (mc (.int .i64 0) 1 (m + m)) 3)) (.cells #[.pointer (some ⟨G, 0, none⟩), .bool down, .slice (some ⟨w.heap.size, 0, none⟩) (m + m) (m + m)] 269); simpa using this
  have hR : Hid (Row W2 w.heap.size (m + m) (fun _ => .int .i64 0)) := Row.made1 W2 _ _ _ 3 rfl hN
  go_enter Ybaz.func108, Ybaz.ntmps108
  go_upto_region 3 with fail
  rw [← hW2]
  generalize hNB : w.heap.size = NB at *
  clear hW2
  go_wp2
  go_loopw [9] (fun s wr => ∃ (k : Nat) (nd : Nat → Int), 1 ≤ k ∧ k ≤ 3 ∧ s = .int .i64 (k : Int) ∧ Hid (Row wr NB (m + m) (fun i => .int .i64 (nd i))) ∧ Hid (Keep (fun b => b = NB) W2 wr) ∧ Hid (IsTy wr NB 3)) (fun s _ => 4 - (intOf s).toNat)
  case atStart => exact ⟨1, fun _ => 0, by omega, by omega, rfl, hR, Keep.refl _ _, _, hN⟩
  case round =>
    obtain ⟨k, nd, hk1, hk3, rfl, HR, HK, HT⟩ := hrel
    have hT2 := HK.out.at hT (by show ¬ NB + 1 = NB; omega)
    have c2 : wr.cell? ⟨NB + 1, 2, none⟩ = some (.slice (some ⟨NB, 0, none⟩) (m + m) (m + m)) := cell_of wr _ 2 _ _ hT2
    by_cases hlt : k < m
    · have k1 : (k : Int) < (m : Int) := by omega
      have k2' : (k : Int) < (m : Int) + (m : Int) := by omega
      have k3 : (k : Int).toNat = k := by omega
      have e0 := HR.out.cell k (by omega)
      have f0 := HR.out.free k
      have H2 : Hid (Row (wr.setCell ⟨NB, k, none⟩ (.int .i64 (-2))) NB (m + m) (fun i => .int .i64 (if i = k then -2 else nd i))) := (HR.out.set k (.int .i64 (-2)) (by omega)).congr (fun j _ => by split <;> rfl)
      have K2 : Hid (Keep (fun b => b = NB) W2 (wr.setCell ⟨NB, k, none⟩ (.int .i64 (-2)))) := HK.out.trans (Keep.setCell wr ⟨NB, k, none⟩ _) (fun _ h => .inl h)
      clear hT2
      go_wp2
      go_roundw
      case rel => exact ⟨k + 1, _, by omega, by omega, by go_num, H2, K2, HT.out.setCell _ _⟩
      case measure => simp [intOf]; omega
    · have k1 : ¬ (k : Int) < (m : Int) := by omega
      have hE2 : wr.heap[EB]? = w.heap[EB]? := (HK.out.block EB (by have := k2.size; omega) (by show ¬ EB = NB; omega)).trans (k2.block EB (by omega) (fun q => q))
      have he2 := he.keep hE2
      have hcp : ∀ ty, (Builtin.copy_ #[62, 62] ty #[.slice (some ⟨NB, m, none⟩) m m, .slice (some ⟨EB, 0, none⟩) m m]).run Ybaz.prog wr = .ok (goInt m) (wr.setCells NB m (List.replicate m (.int .i64 (-1)))) := fun ty => by
        have := run_copy_cells (P := Ybaz.prog) wr 62 62 ty 3 NB m m m ⟨EB, 0, none⟩ m m (List.replicate m (.int .i64 (-1))) Ybaz.underlying62 (by obtain ⟨i, hi, _, hs, _⟩ := inf3; rw [hi]; simp [hs]) (by simp) (fun j v hv => by
          have hj : j < m := by have := (List.getElem?_eq_some_iff.1 hv).1; simpa using this
          rw [add_none, Nat.zero_add, he2.cell j hj]
          simpa [hj] using hv) (fun j hj => by simp at hj; rw [HR.out.cell (m + j) (by omega)]; rfl) (fun j _ => HR.out.free _) (fun v hv => by simp at hv; rw [hv.2]; rfl)
        simpa using this
      have HFin : Hid ((∃ nd', ST (wr.setCells NB m (List.replicate m (.int .i64 (-1)))) (NB + 1) G down m n NB nd') ∧ Keep (fun _ => False) w (wr.setCells NB m (List.replicate m (.int .i64 (-1))))) := by
        have k5 : Keep (fun b => b = NB) wr (wr.setCells NB m (List.replicate m (.int .i64 (-1)))) := Keep.setCells NB _ m wr
        refine ⟨⟨fun i => if m ≤ i then -1 else nd i, k5.at hT2 (by show ¬ NB + 1 = NB; omega), ⟨fun i hi => ?_, fun i => by rw [World.frozen?_setCells]; exact HR.out.free i⟩, ?_, fun i hi => by simp; omega⟩, ((k2.wide (fun _ q => q.elim)).trans HK.out (fun b q => .inr (by omega))).trans k5 (fun b q => .inr (by omega))⟩
        · by_cases hi2 : m ≤ i
          · obtain ⟨j, rfl⟩ : ∃ j, i = m + j := ⟨i - m, by omega⟩
            have := World.cell?_setCells_in NB (List.replicate m (Value.int .i64 (-1))) m wr (fun j hj => by simp at hj; rw [HR.out.cell (m + j) (by omega)]; rfl) j (by simp; omega)
            rw [this]; simp
          · rw [World.cell?_setCells_out NB _ _ _ _ (fun _ _ => .inl (by show i < m; omega)), HR.out.cell i hi]; simp [hi2]
        · exact HT.out.setCells _ _
      clear hT2 he he2 hE2
      rcases Nat.eq_zero_or_pos m with rfl | hpos
      · go_wp2
        go_ret
        exact ⟨NB + 1, rfl, NB, by obtain ⟨⟨nd', h1⟩, h2⟩ := HFin.out; exact ⟨nd', h1, h2, by omega, by omega⟩⟩
      · have hp : (0 : Int) < (m : Int) := by omega
        go_wp2
        go_ret
        exact ⟨NB + 1, rfl, NB, by obtain ⟨⟨nd', h1⟩, h2⟩ := HFin.out; exact ⟨nd', h1, h2, by omega, by omega⟩⟩

/-- Writers of the call's own. -/
def NewWriters (G m n RB : Nat) (down : Bool) (w w' : World) (WB : Nat) : Prop := ∃ TR NB nd, WS w' WB TR n RB ∧ ST w' TR G down m n NB nd ∧ Keep (fun _ => False) w w' ∧ w.heap.size ≤ WB ∧ w.heap.size ≤ TR ∧ w.heap.size ≤ NB
theorem inf62 : ∃ i, Ybaz.prog.info? 62 = some i ∧ i.zero = some (.slice none 0 0) ∧ i.size = 1 ∧ i.bytes = 24 := inf_of (by kernel_rfl)

set_option maxHeartbeats 4000000 in
set_option maxRecDepth 100000 in
theorem newWriters_any (G m EB n RB : Nat) (down : Bool) (w : World) (hm : m ≤ 3) (hn : n ≤ 5) (he : Row w EB m (fun _ => .int .i64 (-1))) (hEB : EB < w.heap.size) (hr : Row w RB n (fun _ => .bool false)) (hRB : RB < w.heap.size) :
    Calls Ybaz.prog 50 #[.pointer (some ⟨G, 0, none⟩), .slice (some ⟨EB, 0, none⟩) m m, .bool down, .slice (some ⟨RB, 0, none⟩) n n] w fun e w' => ∃ WB, e = .returned (.pointer (some ⟨WB, 0, none⟩)) ∧ NewWriters G m n RB down w w' WB := by
  have r63 := fun W => run_mkv 63 62 (.slice none 0 0) 1 24 Ybaz.underlying63 inf62 (by omega) W n (by omega)
  have HT : Hid (∀ v : World, Keep (fun _ => False) w v → Calls Ybaz.prog 108 #[.pointer (some ⟨G, 0, none⟩), .slice (some ⟨EB, 0, none⟩) m m, .bool down] v fun e w' => ∃ TR, e = .returned (.pointer (some ⟨TR, 0, none⟩)) ∧ Hid (Keep (fun _ => False) w w') ∧ Hid (NewTree G m n down v w' TR)) := fun v kv => by
    refine (newTree_any G m EB n down v hm (he.keep (kv.block EB hEB (fun q => q))) (Nat.lt_of_lt_of_le hEB kv.size)).mono ?_
    rintro e w' ⟨TR, rfl, h⟩
    obtain ⟨NB, nd, h1, h2, h3⟩ := h
    exact ⟨TR, rfl, kv.trans h2 (fun _ q => q.elim), NB, nd, h1, h2, h3⟩
  have HW : Hid (Row w RB n (fun _ => .bool false)) := hr
  clear he hr
  go_enter Ybaz.func50, Ybaz.ntmps50
  go_upto_region 1 with fail
  go_region_held3 (fun w' => Hid (Keep (fun _ => False) w w')) (first | assumption | (exact (Keep.refl _ _).drew) | (refine Keep.trans (F' := fun _ => False) (by assumption) (Keep.alloc (fun _ => False) _ _) (fun _ q => False.elim q))) (first
    | (go_at_call 108; refine (HT.out _ ?_).mono ?_; (first | assumption | (exact ⟨rfl, rfl, rfl, Nat.le_refl _, fun _ _ _ => rfl⟩)); rintro e w2 ⟨TR, rfl, hK2, HN⟩))
  · go_wp2
    go_ret
    obtain ⟨NB, nd, h1, h2, h3, h4⟩ := HN.out
    have k9 : Keep (fun _ => False) w2 ((w2.alloc (Obj.cells (mc (Value.slice none 0 0) 1 n) 62)).alloc (Obj.cells #[.pointer (some ⟨TR, 0, none⟩), .slice (some ⟨RB, 0, none⟩) n n, .slice (some ⟨w2.heap.size, 0, none⟩) n n] 205)) := (Keep.alloc _ w2 _).trans (Keep.alloc (fun _ => False) _ _) (fun _ q => q.elim)
    have kw := hK2.out.trans k9 (fun _ q => q.elim)
    have hs := hK2.out.size
    refine ⟨w2.heap.size + 1, rfl, TR, NB, nd, ⟨⟨.slice (some ⟨w2.heap.size, 0, none⟩) n n, ?_⟩, HW.out.keep (kw.block RB hRB (fun q => q)), Nat.lt_of_lt_of_le hRB kw.size⟩, h1.keep k9 (fun q => q) (fun q => q), kw, by omega, h3, h4⟩
    have := heap_alloc_new (w2.alloc (Obj.cells (mc (Value.slice none 0 0) 1 n) 62)) (Obj.cells #[.pointer (some ⟨TR, 0, none⟩), .slice (some ⟨RB, 0, none⟩) n n, .slice (some ⟨w2.heap.size, 0, none⟩) n n] 205)
    simpa using this
  · go_wp2
    go_ret
    obtain ⟨NB, nd, h1, h2, h3, h4⟩ := HN.out
    have k9 : Keep (fun _ => False) w2 (w2.alloc (Obj.cells #[.pointer (some ⟨TR, 0, none⟩), .slice (some ⟨RB, 0, none⟩) n n, .slice (some ⟨w.heap.size, 0, none⟩) n n] 205)) := Keep.alloc _ w2 _
    have kw := hK2.out.trans k9 (fun _ q => q.elim)
    have hs := hK2.out.size
    simp at h3 h4
    exact ⟨w2.heap.size, rfl, TR, NB, nd, ⟨⟨_, heap_alloc_new _ _⟩, HW.out.keep (kw.block RB hRB (fun q => q)), Nat.lt_of_lt_of_le hRB kw.size⟩, h1.keep k9 (fun q => q) (fun q => q), kw, by omega, by omega, by omega⟩
end Go.Proofs.YbulkdvbsGreat

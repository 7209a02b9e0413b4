/-
  keepTo, whatever it finds.
-/
import Derived.Test.YbulkdvbsGreatEnterW
import Derived.Test.YbulkdvbsGreatSearch
namespace Go.Proofs.YbulkdvbsGreat
open Go.RowKit
attribute [local go_sem ↓] exec_make155 exec_make95 exec_make86

/-- The graph is laid out and ready for every 'allow'. -/
def Ready2 (w w' : World) (G n E : Nat) (la : Option Addr) (lc : Nat) (ga : Option Addr) (gc FB NX KN : Nat) (first : Nat → Nat) (next kd : Nat → Int) : Prop := ∃ AH, w.heap.size ≤ AH ∧ GL w' G n E la lc ga gc FB NX KN (.slice (some ⟨AH, 0, none⟩) n n) first next kd ∧ Ah w' n (.slice (some ⟨AH, 0, none⟩) n n) true ∧ Keep (fun b => b = G) w w'
set_option maxHeartbeats 4000000 in
set_option maxRecDepth 100000 in
/-- keepTo for the first time. -/
theorem keepTo_new (G n E : Nat) (la : Option Addr) (lc : Nat) (ga : Option Addr) (gc FB NX KN : Nat) (first : Nat → Nat) (next kd : Nat → Int) (allow : Int) (w : World) (h : GL w G n E la lc ga gc FB NX KN vnil first next kd) (hn : n ≤ 5) (hG : G ≠ FB ∧ G ≠ NX ∧ G ≠ KN) (hal : allow ≠ 63) :
    Calls Ybaz.prog 133 #[.pointer (some ⟨G, 0, none⟩), .int .u8 allow] w fun e w' => e = .returned (.tuple #[]) ∧ Ready2 w w' G n E la lc ga gc FB NX KN first next kd := by
  have c5 : w.cell? ⟨G, 5, none⟩ = some (.slice (some ⟨FB, 0, none⟩) (n + 1) (n + 1)) := cell_of w G 5 _ _ h.blk
  have c8 : w.cell? ⟨G, 8, none⟩ = some (.slice none 0 0) := cell_of w G 8 _ _ h.blk
  have f8 := free_of w G 8 _ _ h.blk
  have c1 : w.cell? ⟨G, 1, none⟩ = some (.slice la n lc) := cell_of w G 1 _ _ h.blk
  have hnil := fun W => Lib.run_eql_slice_nil (P := Ybaz.prog) W 95 21 (some ⟨FB, 0, none⟩) (n + 1) (n + 1) 0 0 Ybaz.underlying95
  have q1 : (allow == 63) = false := by simpa using hal
  have HN := fun _ : Unit => nodes_any G n lc la w c1
  have r3 := fun W => run_mkv 155 96 (.int .u8 0) 1 1 Ybaz.underlying155 inf96 (by omega) W n (by omega)
  have hGl : G < w.heap.size := heap_lt h.blk
  have nG : G ≠ w.heap.size := by omega
  obtain ⟨hB, hR, hK, hL⟩ := field_make (i := 8) (n := n) (e := 96) (z := .int .u8 0) h.blk rfl
  have n1 : (n : Int) ≤ 5 := by omega
  have oga : ¬ ga = some ⟨G, 0, none⟩ := h.vg.off h.blk (by decide)
  obtain ⟨l1, l2, l3⟩ := h.lt
  have HH : Hid (GL w G n E la lc ga gc FB NX KN vnil first next kd) := h
  clear h
  go_enter Ybaz.func133, Ybaz.ntmps133
  go_upto_region 4 with (first
    | (go_at_call 127; refine (HN ()).mono ?_; rintro e w2 ⟨rfl, rfl⟩))
  generalize (w.setCell ⟨G, 8, none⟩ (.slice (some ⟨w.heap.size, 0, none⟩) n n)).alloc (.cells (mc (.int .u8 0) 1 n) 96) = w1 at *
  generalize hAH : w.heap.size = AH at *
  have HB1 : Hid (w1.heap[G]? = some (.cells (gcells n (.slice la n lc) vnil vnil (.slice ga (gn n) gc) (.slice (some ⟨FB, 0, none⟩) (n + 1) (n + 1)) (.slice (some ⟨NX, 0, none⟩) E E) (.slice (some ⟨KN, 0, none⟩) E E) (.slice (some ⟨AH, 0, none⟩) n n)) 201)) := hB
  have HR1 : Hid _ := hR
  have HK1 : Hid _ := hK
  have HVg1 : Hid _ := HH.out.vg.keep hK (fun b hb q => by subst q; exact oga hb)
  clear hB hR hK c5 c8 f8 c1 HN hnil r3
  have HN1 := fun _ : Unit => nodes_any G n lc la w1 (cell_of w1 G 1 _ _ HB1.out)
  go_wp2_with (first
    | (go_at_call 127; refine (HN1 ()).mono ?_; rintro e w2 ⟨rfl, rfl⟩))
  clear HN1
  go_loopw [4] (fun s wr => ∃ u : Nat, u ≤ n ∧ s = .int .i64 ((u : Int) - 1) ∧ Hid (Row wr AH n (fun i => .int .u8 (if u ≤ i then 63 else 0))) ∧ Hid (Keep (fun b => b = AH) w1 wr)) (fun s _ => (intOf s + 1).toNat)
  case atStart => exact ⟨n, Nat.le_refl _, rfl, HR1.out.congr (fun i hi => by simp [show ¬ n ≤ i by omega]), Keep.refl _ _⟩
  case round =>
    obtain ⟨u, hu, rfl, HR, HK⟩ := hrel
    cases u with
    | zero =>
      go_wp2
      go_end0
      refine ⟨rfl, AH, by omega, ?_, .inr ⟨rfl, AH, rfl, HR.out.congr (fun i _ => by simp), by have := HK.out.size; omega⟩, HK1.out.trans HK.out (fun b q => .inr (by omega))⟩
      have s1 := HK1.out.size
      have s2 := HK.out.size
      exact ⟨HK.out.at HB1.out (by omega), HVg1.out.keep HK.out (fun b hb q => by have := HH.out.vg.lt hb; omega), (HH.out.rf.keep (HK1.out.block FB (by omega) (fun q => hG.1 q.symm))).keep (HK.out.block FB (by omega) (by show ¬ FB = AH; omega)), (HH.out.rn.keep (HK1.out.block NX (by omega) (fun q => hG.2.1 q.symm))).keep (HK.out.block NX (by omega) (by show ¬ NX = AH; omega)), (HH.out.rk.keep (HK1.out.block KN (by omega) (fun q => hG.2.2 q.symm))).keep (HK.out.block KN (by omega) (by show ¬ KN = AH; omega)), ⟨by omega, by omega, by omega⟩, HH.out.mono, HH.out.top, HH.out.hn, HH.out.hk⟩
    | succ u =>
      have uc : ((u + 1 : Nat) : Int) - 1 = (u : Int) := by omega
      rw [uc]
      have hB2 := HK.out.at HB1.out (by omega)
      have c4 : wr.cell? ⟨G, 4, none⟩ = some (.slice ga (gn n) gc) := cell_of wr G 4 _ _ hB2
      have c8 : wr.cell? ⟨G, 8, none⟩ = some (.slice (some ⟨AH, 0, none⟩) n n) := cell_of wr G 8 _ _ hB2
      have hgn : gn n = 1 := by unfold gn; rw [if_neg (by omega)]
      rw [hgn] at c4 HVg1
      obtain ⟨gG, rfl, hgG, rG⟩ := (HVg1.out.keep HK.out (fun b hb q => by have := HH.out.vg.lt hb; omega)).blk (by omega)
      have eg : wr.cell? ⟨gG, 0, none⟩ = some (.int .u64 0) := by have := rG.cell 0 0 (by omega) (by omega); simpa using this
      have q2 : (u : Int).tdiv 64 = 0 := by rw [Int.tdiv_eq_ediv_of_nonneg (by omega)]; omega
      have q3 : (u : Int).tmod 64 = (u : Int) := by rw [Int.tmod_eq_emod_of_nonneg (by omega)]; omega
      have u1 : (u : Int) < (n : Int) := by omega
      have u2 : (u : Int).toNat = u := by omega
      have e0 := HR.out.cell u (by omega)
      have f0 := HR.out.free u
      have HR2 : Hid (Row (wr.setCell ⟨AH, u, none⟩ (.int .u8 63)) AH n (fun i => .int .u8 (if u ≤ i then 63 else 0))) := (HR.out.set u (.int .u8 63) (by omega)).congr (fun i _ => by
        by_cases e : i = u
        · subst e; simp
        · by_cases e2 : u ≤ i
          · simp [e, e2, show u + 1 ≤ i by omega]
          · simp [e, e2, show ¬ u + 1 ≤ i by omega])
      have HK2 : Hid (Keep (fun b => b = AH) w1 (wr.setCell ⟨AH, u, none⟩ (.int .u8 63))) := HK.out.trans (Keep.setCell wr ⟨AH, u, none⟩ _) (fun _ h => .inl h)
      clear hB2
      have q4 : bits BinOp.and IntKind.u64 0 (IntKind.u64.wrap (2 ^ u)) = 0 := by
        have : u = 0 ∨ u = 1 ∨ u = 2 ∨ u = 3 ∨ u = 4 := by omega
        rcases this with rfl | rfl | rfl | rfl | rfl <;> decide
      go_upto_region 7 with fail
      go_quiet (fail)
      go_wp2
      go_roundw
      case rel => exact ⟨u, by omega, by go_num, ⟨HR2.out.cell, HR2.out.free⟩, HK2.out.drewN _⟩
      case measure => simp [intOf]

/-- Behind keepTo. -/
def Kept (w w' : World) (G n E : Nat) (la : Option Addr) (lc : Nat) (ga : Option Addr) (gc FB NX KN : Nat) (ah : Value) (first : Nat → Nat) (next kd : Nat → Int) (ok : Bool) (allow : Int) : Prop := ∃ ah' ok', GL w' G n E la lc ga gc FB NX KN ah' first next kd ∧ Ah w' n ah' ok' ∧ (allow = 63 ∨ ok' = true) ∧ (ok = true → ok' = true) ∧ (∀ b, gBlk G ga FB NX KN n ah' b → gBlk G ga FB NX KN n ah b ∨ w.heap.size ≤ b) ∧ Keep (fun b => b = G) w w'
theorem keepTo_any (G n E : Nat) (la : Option Addr) (lc : Nat) (ga : Option Addr) (gc FB NX KN : Nat) (ah : Value) (first : Nat → Nat) (next kd : Nat → Int) (allow : Int) (ok : Bool) (w : World) (h : GL w G n E la lc ga gc FB NX KN ah first next kd) (ha : Ah w n ah ok) (hn : n ≤ 5) (hG : G ≠ FB ∧ G ≠ NX ∧ G ≠ KN) :
    Calls Ybaz.prog 133 #[.pointer (some ⟨G, 0, none⟩), .int .u8 allow] w fun e w' => e = .returned (.tuple #[]) ∧ Kept w w' G n E la lc ga gc FB NX KN ah first next kd ok allow := by
  by_cases hal : allow = 63 ∨ ok = true
  · refine (keepTo_same G n E la lc ga gc FB NX KN ah first next kd allow ok w h ha hal).mono ?_
    rintro e w' ⟨rfl, rfl⟩
    exact ⟨rfl, ah, ok, h, ha, hal, id, fun b hb => .inl hb, Keep.refl _ _⟩
  · have h1 : allow ≠ 63 := fun q => hal (.inl q)
    have h2 : ok = false := by cases ok <;> simp_all
    rcases ha with ⟨_, rfl⟩ | ⟨q, _⟩
    · refine (keepTo_new G n E la lc ga gc FB NX KN first next kd allow w h hn hG h1).mono ?_
      rintro e w' ⟨rfl, AH, r1, r2, r3, r4⟩
      refine ⟨rfl, _, true, r2, r3, .inr rfl, fun _ => rfl, ?_, r4⟩
      rintro b (q | q | q | q | q | q)
      · exact .inl (.inl q)
      · exact .inl (.inr (.inl q))
      · exact .inl (.inr (.inr (.inl q)))
      · exact .inl (.inr (.inr (.inr (.inl q))))
      · exact .inl (.inr (.inr (.inr (.inr (.inl q)))))
      · injection q with q _ _; injection q with q; injection q with q
        exact .inr (by omega)
    · rw [h2] at q; cases q

/-- A row is made and laid into a box. -/
theorem mkbox (W : World) (z : Value) (e t : TypeId) (n S : Nat) (hz : z.cells = #[z]) (hS : W.heap.size = S) (W' : World) (hW : W' = ((W.alloc (.cells (mc z 1 n) e)).alloc (.cells #[.slice (some ⟨S, 0, none⟩) n n] t))) :
    W'.heap.size = S + 2 ∧ W'.heap[S + 1]? = some (.cells #[.slice (some ⟨S, 0, none⟩) n n] t) ∧ Row W' S n (fun _ => z) ∧ Keep (fun _ => False) W W' := by
  subst hW
  have h1 : (W.alloc (.cells (mc z 1 n) e)).heap.size = S + 1 := by rw [World.size_alloc]; omega
  have hb : (W.alloc (.cells (mc z 1 n) e)).heap[S]? = some (.cells (mc z 1 n) e) := by rw [← hS]; exact heap_alloc_new _ _
  refine ⟨by rw [World.size_alloc]; omega, by rw [← h1]; exact heap_alloc_new _ _, ?_, ?_⟩
  · have := Row.made1 _ S n z e hz hb
    exact this.keep (Below.heap_alloc _ _ _ (by omega))
  · exact (Keep.alloc _ W _).trans (Keep.alloc (fun _ => False) _ _) (fun _ q => .inl q)
end Go.Proofs.YbulkdvbsGreat

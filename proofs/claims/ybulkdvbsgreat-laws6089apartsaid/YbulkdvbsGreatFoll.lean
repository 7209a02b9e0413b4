/-
  out, follows, keepTo over a laid out graph, walked.
-/
import Derived.Test.YbulkdvbsGreatLay
namespace Go.Proofs.YbulkdvbsGreat
open Go.RowKit
attribute [local go_sem ↓] exec_make155

/-- Is an edge of kind d followed, where 'allow' is allowed? -/
def fl (d allow : Int) : Bool := if d = 0 then true else !(bits .and .u8 d allow == 0)
/-- What is ahead: nothing yet, or everything of everybody. -/
def Ah (w : World) (n : Nat) (ah : Value) (ok : Bool) : Prop := (ok = false ∧ ah = vnil) ∨ (ok = true ∧ ∃ AH, ah = .slice (some ⟨AH, 0, none⟩) n n ∧ Row w AH n (fun _ => .int .u8 63) ∧ AH < w.heap.size)

set_option maxHeartbeats 2000000 in
set_option maxRecDepth 100000 in
theorem follows_any (G n E : Nat) (la : Option Addr) (lc : Nat) (ga : Option Addr) (gc FB NX KN : Nat) (ah : Value) (first : Nat → Nat) (next kd : Nat → Int) (v : Nat) (d allow : Int) (ok : Bool) (w : World) (h : GL w G n E la lc ga gc FB NX KN ah first next kd) (ha : Ah w n ah ok) (hv : v < n) (hd : 0 ≤ d ∧ d ≤ 255) (hal : allow = 63 ∨ (ok = true ∧ 1 ≤ allow ∧ allow ≤ 62)) :
    Calls Ybaz.prog 135 #[.pointer (some ⟨G, 0, none⟩), .int .i32 (v : Int), .int .u8 d, .int .u8 allow] w fun e w' => e = .returned (.bool (fl d allow)) ∧ w = w' := by
  have c8 : w.cell? ⟨G, 8, none⟩ = some ah := cell_of w G 8 _ _ h.blk
  clear h
  by_cases hd0 : d = 0
  · subst hd0
    rcases hal with rfl | ⟨rfl, h1, h2⟩
    · go_enter Ybaz.func135, Ybaz.ntmps135
      go_wp2
      go_ret
      exact ⟨by simp [fl], rfl⟩
    · rcases ha with ⟨hx, _⟩ | ⟨_, AH, rfl, hr, _⟩
      · cases hx
      · have e0 := hr.cell v hv
        have v1 : (v : Int) < (n : Int) := by omega
        have v2 : (v : Int).toNat = v := by omega
        have q1 : (allow == 63) = false := by simp; omega
        have q2 : (bits .and .u8 63 allow == 0) = false := by
          rw [u8_and 63 allow (by omega) (by omega) (by omega) (by omega)]
          have hb : (63 : Int).toNat &&& allow.toNat = allow.toNat := by
            have : allow.toNat &&& 63 = allow.toNat % 64 := Nat.and_two_pow_sub_one_eq_mod allow.toNat 6
            rw [Nat.and_comm]
            show allow.toNat &&& 63 = _
            rw [this, Nat.mod_eq_of_lt (by omega)]
          rw [hb]; simp; omega
        go_enter Ybaz.func135, Ybaz.ntmps135
        go_wp2
        go_ret
        have q3 : (bits .and .u8 63 allow != 0) = true := by rw [bne, q2]; rfl
        exact ⟨by simp [fl, q3], rfl⟩
  · have q1 : (d == 0) = false := by simpa using hd0
    go_enter Ybaz.func135, Ybaz.ntmps135
    go_wp2
    go_ret
    exact ⟨by simp [fl, hd0, bne], rfl⟩

/-- The two slices of the edges from A on to B. -/
def OutOf (NX KN A B : Nat) (e : Ending) : Prop := ∃ a1 c1 a2 c2, e = .returned (.tuple #[.slice a1 (B - A) c1, .slice a2 (B - A) c2]) ∧ (A < B → a1 = some ⟨NX, A, none⟩ ∧ a2 = some ⟨KN, A, none⟩)

set_option maxHeartbeats 4000000 in
set_option maxRecDepth 100000 in
theorem out_any (G n E : Nat) (la : Option Addr) (lc : Nat) (ga : Option Addr) (gc FB NX KN : Nat) (ah : Value) (first : Nat → Nat) (next kd : Nat → Int) (u : Nat) (w : World) (h : GL w G n E la lc ga gc FB NX KN ah first next kd) (hu : u < n) (hn : n ≤ 5) (hE : E ≤ 100000) :
    Calls Ybaz.prog 128 #[.pointer (some ⟨G, 0, none⟩), .int .i64 (u : Int)] w fun e w' => OutOf NX KN (first u) (first (u + 1)) e ∧ ∃ q, w' = w.drewN q := by
  have c5 : w.cell? ⟨G, 5, none⟩ = some (.slice (some ⟨FB, 0, none⟩) (n + 1) (n + 1)) := cell_of w G 5 _ _ h.blk
  have c6 : w.cell? ⟨G, 6, none⟩ = some (.slice (some ⟨NX, 0, none⟩) E E) := cell_of w G 6 _ _ h.blk
  have c7 : w.cell? ⟨G, 7, none⟩ = some (.slice (some ⟨KN, 0, none⟩) E E) := cell_of w G 7 _ _ h.blk
  have hnil := fun W => Lib.run_eql_slice_nil (P := Ybaz.prog) W 95 21 (some ⟨FB, 0, none⟩) (n + 1) (n + 1) 0 0 Ybaz.underlying95
  obtain ⟨A, HA⟩ : ∃ A, Hid (A = first u) := ⟨_, rfl⟩
  obtain ⟨B, HB⟩ : ∃ B, Hid (B = first (u + 1)) := ⟨_, rfl⟩
  have eA : w.cell? ⟨FB, u, none⟩ = some (.int .i32 (A : Int)) := by rw [HA.out]; exact h.rf.cell u (by omega)
  have eB : w.cell? ⟨FB, u + 1, none⟩ = some (.int .i32 (B : Int)) := by rw [HB.out]; exact h.rf.cell (u + 1) (by omega)
  have hAB : A ≤ B := by rw [HA.out, HB.out]; exact h.mono u hu
  have hBE : B ≤ E := by rw [HB.out]; exact h.top (u + 1) (by omega)
  have u1 : (u : Int) < (n : Int) + 1 := by omega
  have u2 : (u : Int).toNat = u := by omega
  have u3 : ((u : Int) + 1).toNat = u + 1 := by omega
  have u4 : (u : Int) + 1 < (n : Int) + 1 := by omega
  have u5 : (0 : Int) ≤ (u : Int) + 1 := by omega
  have uw : IntKind.i64.wrap ((u : Int) + 1) = (u : Int) + 1 := by rw [IntKind.wrap_i64]; omega
  have p1 : (A : Int) ≤ (B : Int) := by omega
  have p2 : (B : Int) ≤ (E : Int) := by omega
  have p3 : (A : Int).toNat = A := by omega
  have p4 : (B : Int).toNat = B := by omega
  rw [← HA.out, ← HB.out]
  clear h
  go_enter Ybaz.func128, Ybaz.ntmps128
  go_upto_region 3 with fail
  go_quiet (fail)
  go_upto_region 4 with fail
  go_quiet (fail)
  by_cases hAE : A = E
  · subst hAE
    go_wp2
    go_ret2
    exact ⟨⟨_, _, _, _, rfl, fun h => by omega⟩, _, World.drewN_drewN _ _ _⟩
  · have hAE2 : (A : Int) < (E : Int) := by omega
    go_wp2
    go_ret2
    exact ⟨⟨_, _, _, _, rfl, fun _ => ⟨rfl, rfl⟩⟩, _, rfl⟩

theorem GL.keep {w w' : World} {G n E : Nat} {la : Option Addr} {lc : Nat} {ga : Option Addr} {gc FB NX KN : Nat} {ah : Value} {first : Nat → Nat} {next kd : Nat → Int} (h : GL w G n E la lc ga gc FB NX KN ah first next kd) {F : Nat → Prop} (k : Keep F w w') (hG : ¬ F G) (hg : ∀ b, ga = some ⟨b, 0, none⟩ → ¬ F b) (h1 : ¬ F FB) (h2 : ¬ F NX) (h3 : ¬ F KN) : GL w' G n E la lc ga gc FB NX KN ah first next kd := by
  obtain ⟨l1, l2, l3⟩ := h.lt
  have := k.size
  exact ⟨k.at h.blk hG, h.vg.keep k hg, h.rf.keep (k.block FB l1 h1), h.rn.keep (k.block NX l2 h2), h.rk.keep (k.block KN l3 h3), ⟨by omega, by omega, by omega⟩, h.mono, h.top, h.hn, h.hk⟩
/-- The graph is laid out and ready for 'allow'. -/
def Ready (w w' : World) (G n E : Nat) (la : Option Addr) (lc : Nat) (ga : Option Addr) (gc FB NX KN : Nat) (first : Nat → Nat) (next kd : Nat → Int) (ok : Bool) : Prop := ∃ ah, GL w' G n E la lc ga gc FB NX KN ah first next kd ∧ Ah w' n ah ok ∧ Keep (fun b => b = G) w w'

set_option maxHeartbeats 4000000 in
set_option maxRecDepth 100000 in
/-- keepTo where nothing is to be done. -/
theorem keepTo_same (G n E : Nat) (la : Option Addr) (lc : Nat) (ga : Option Addr) (gc FB NX KN : Nat) (ah : Value) (first : Nat → Nat) (next kd : Nat → Int) (allow : Int) (ok : Bool) (w : World) (h : GL w G n E la lc ga gc FB NX KN ah first next kd) (ha : Ah w n ah ok) (hal : allow = 63 ∨ ok = true) :
    Calls Ybaz.prog 133 #[.pointer (some ⟨G, 0, none⟩), .int .u8 allow] w fun e w' => e = .returned (.tuple #[]) ∧ w = w' := by
  have c5 : w.cell? ⟨G, 5, none⟩ = some (.slice (some ⟨FB, 0, none⟩) (n + 1) (n + 1)) := cell_of w G 5 _ _ h.blk
  have c8 : w.cell? ⟨G, 8, none⟩ = some ah := cell_of w G 8 _ _ h.blk
  have hnil := fun W => Lib.run_eql_slice_nil (P := Ybaz.prog) W 95 21 (some ⟨FB, 0, none⟩) (n + 1) (n + 1) 0 0 Ybaz.underlying95
  clear h
  by_cases h63 : allow = 63
  · subst h63
    go_enter Ybaz.func133, Ybaz.ntmps133
    go_wp2
    refine bodyPost_ret (results_none rfl _ _ _) rfl ?_
    exact ⟨rfl, rfl⟩
  · have q1 : (allow == 63) = false := by simpa using h63
    rcases ha with ⟨hx, _⟩ | ⟨_, AH, rfl, hr, _⟩
    · rcases hal with hal | hal
      · exact absurd hal h63
      · rw [hal] at hx; cases hx
    · go_enter Ybaz.func133, Ybaz.ntmps133
      go_wp2
      refine bodyPost_ret (results_none rfl _ _ _) rfl ?_
      exact ⟨rfl, rfl⟩

set_option maxHeartbeats 4000000 in
set_option maxRecDepth 100000 in
/-- keepTo for the first time. -/
theorem keepTo_first (G n E : Nat) (la : Option Addr) (lc : Nat) (ga : Option Addr) (gc FB NX KN : Nat) (first : Nat → Nat) (next kd : Nat → Int) (allow : Int) (w : World) (h : GL w G n E la lc ga gc FB NX KN vnil first next kd) (hn : n ≤ 5) (hG : G ≠ FB ∧ G ≠ NX ∧ G ≠ KN) (hal : allow ≠ 63) :
    Calls Ybaz.prog 133 #[.pointer (some ⟨G, 0, none⟩), .int .u8 allow] w fun e w' => e = .returned (.tuple #[]) ∧ Ready w w' G n E la lc ga gc FB NX KN first next kd true := by
  have c5 : w.cell? ⟨G, 5, none⟩ = some (.slice (some ⟨FB, 0, none⟩) (n + 1) (n + 1)) := cell_of w G 5 _ _ h.blk
  have c8 : w.cell? ⟨G, 8, none⟩ = some (.slice none 0 0) := cell_of w G 8 _ _ h.blk
  have f8 := free_of w G 8 _ _ h.blk
  have c1 : w.cell? ⟨G, 1, none⟩ = some (.slice la n lc) := cell_of w G 1 _ _ h.blk
  have hnil := fun W => Lib.run_eql_slice_nil (P := Ybaz.prog) W 95 21 (some ⟨FB, 0, none⟩) (n + 1) (n + 1) 0 0 Ybaz.underlying95
  have q1 : (allow == 63) = false := by simpa using hal
  have HN := fun _ : Unit => nodes_any G n lc la w c1
  have r3 := fun W => run_mkv 155 96 (.int .u8 0) 1 1 Ybaz.underlying155 inf96 (by omega) W n (by omega)
  have hGl : G < w.heap.size := heap_lt h.blk
  have nG : G ≠ w.heap.size := by omega
  obtain ⟨hB, hR, hK, hL⟩ := field_make (i := 8) (n := n) (e := 96) (z := .int .u8 0) h.blk rfl
  have n1 : (n : Int) ≤ 5 := by omega
  have oga : ¬ ga = some ⟨G, 0, none⟩ := h.vg.off h.blk (by decide)
  obtain ⟨l1, l2, l3⟩ := h.lt
  have HH : Hid (GL w G n E la lc ga gc FB NX KN vnil first next kd) := h
  clear h
  go_enter Ybaz.func133, Ybaz.ntmps133
  go_upto_region 4 with (first
    | (go_at_call 127; refine (HN ()).mono ?_; rintro e w2 ⟨rfl, rfl⟩))
  generalize (w.setCell ⟨G, 8, none⟩ (.slice (some ⟨w.heap.size, 0, none⟩) n n)).alloc (.cells (mc (.int .u8 0) 1 n) 96) = w1 at *
  generalize hAH : w.heap.size = AH at *
  have HB1 : Hid (w1.heap[G]? = some (.cells (gcells n (.slice la n lc) vnil vnil (.slice ga (gn n) gc) (.slice (some ⟨FB, 0, none⟩) (n + 1) (n + 1)) (.slice (some ⟨NX, 0, none⟩) E E) (.slice (some ⟨KN, 0, none⟩) E E) (.slice (some ⟨AH, 0, none⟩) n n)) 201)) := hB
  have HR1 : Hid _ := hR
  have HK1 : Hid _ := hK
  have HVg1 : Hid _ := HH.out.vg.keep hK (fun b hb q => by subst q; exact oga hb)
  clear hB hR hK c5 c8 f8 c1 HN hnil r3
  have HN1 := fun _ : Unit => nodes_any G n lc la w1 (cell_of w1 G 1 _ _ HB1.out)
  go_wp2_with (first
    | (go_at_call 127; refine (HN1 ()).mono ?_; rintro e w2 ⟨rfl, rfl⟩))
  clear HN1
  go_loopw [4] (fun s wr => ∃ u : Nat, u ≤ n ∧ s = .int .i64 ((u : Int) - 1) ∧ Hid (Row wr AH n (fun i => .int .u8 (if u ≤ i then 63 else 0))) ∧ Hid (Keep (fun b => b = AH) w1 wr)) (fun s _ => (intOf s + 1).toNat)
  case atStart => exact ⟨n, Nat.le_refl _, rfl, HR1.out.congr (fun i hi => by simp [show ¬ n ≤ i by omega]), Keep.refl _ _⟩
  case round =>
    obtain ⟨u, hu, rfl, HR, HK⟩ := hrel
    cases u with
    | zero =>
      go_wp2
      go_end0
      refine ⟨rfl, .slice (some ⟨AH, 0, none⟩) n n, ?_, .inr ⟨rfl, AH, rfl, HR.out.congr (fun i _ => by simp), by have := HK.out.size; omega⟩, HK1.out.trans HK.out (fun b q => .inr (by omega))⟩
      have s1 := HK1.out.size
      have s2 := HK.out.size
      exact ⟨HK.out.at HB1.out (by omega), HVg1.out.keep HK.out (fun b hb q => by have := HH.out.vg.lt hb; omega), (HH.out.rf.keep (HK1.out.block FB (by omega) (fun q => hG.1 q.symm))).keep (HK.out.block FB (by omega) (by show ¬ FB = AH; omega)), (HH.out.rn.keep (HK1.out.block NX (by omega) (fun q => hG.2.1 q.symm))).keep (HK.out.block NX (by omega) (by show ¬ NX = AH; omega)), (HH.out.rk.keep (HK1.out.block KN (by omega) (fun q => hG.2.2 q.symm))).keep (HK.out.block KN (by omega) (by show ¬ KN = AH; omega)), ⟨by omega, by omega, by omega⟩, HH.out.mono, HH.out.top, HH.out.hn, HH.out.hk⟩
    | succ u =>
      have uc : ((u + 1 : Nat) : Int) - 1 = (u : Int) := by omega
      rw [uc]
      have hB2 := HK.out.at HB1.out (by omega)
      have c4 : wr.cell? ⟨G, 4, none⟩ = some (.slice ga (gn n) gc) := cell_of wr G 4 _ _ hB2
      have c8 : wr.cell? ⟨G, 8, none⟩ = some (.slice (some ⟨AH, 0, none⟩) n n) := cell_of wr G 8 _ _ hB2
      have hgn : gn n = 1 := by unfold gn; rw [if_neg (by omega)]
      rw [hgn] at c4 HVg1
      obtain ⟨gG, rfl, hgG, rG⟩ := (HVg1.out.keep HK.out (fun b hb q => by have := HH.out.vg.lt hb; omega)).blk (by omega)
      have eg : wr.cell? ⟨gG, 0, none⟩ = some (.int .u64 0) := by have := rG.cell 0 0 (by omega) (by omega); simpa using this
      have q2 : (u : Int).tdiv 64 = 0 := by rw [Int.tdiv_eq_ediv_of_nonneg (by omega)]; omega
      have q3 : (u : Int).tmod 64 = (u : Int) := by rw [Int.tmod_eq_emod_of_nonneg (by omega)]; omega
      have u1 : (u : Int) < (n : Int) := by omega
      have u2 : (u : Int).toNat = u := by omega
      have e0 := HR.out.cell u (by omega)
      have f0 := HR.out.free u
      have HR2 : Hid (Row (wr.setCell ⟨AH, u, none⟩ (.int .u8 63)) AH n (fun i => .int .u8 (if u ≤ i then 63 else 0))) := (HR.out.set u (.int .u8 63) (by omega)).congr (fun i _ => by
        by_cases e : i = u
        · subst e; simp
        · by_cases e2 : u ≤ i
          · simp [e, e2, show u + 1 ≤ i by omega]
          · simp [e, e2, show ¬ u + 1 ≤ i by omega])
      have HK2 : Hid (Keep (fun b => b = AH) w1 (wr.setCell ⟨AH, u, none⟩ (.int .u8 63))) := HK.out.trans (Keep.setCell wr ⟨AH, u, none⟩ _) (fun _ h => .inl h)
      clear hB2
      have q4 : bits BinOp.and IntKind.u64 0 (IntKind.u64.wrap (2 ^ u)) = 0 := by
        have : u = 0 ∨ u = 1 ∨ u = 2 ∨ u = 3 ∨ u = 4 := by omega
        rcases this with rfl | rfl | rfl | rfl | rfl <;> decide
      go_upto_region 7 with fail
      go_quiet (fail)
      go_wp2
      go_roundw
      case rel => exact ⟨u, by omega, by go_num, ⟨HR2.out.cell, HR2.out.free⟩, HK2.out.drewN _⟩
      case measure => simp [intOf]
end Go.Proofs.YbulkdvbsGreat

import Derived.Test.YbulkdvbsNodes
import Derived.Test.YbulkdvbsPlain
namespace Go.Proofs.Ybulkdvbs
open Go.RowKit

/-- 'newGraph(n)'. -/
theorem graph_new (n base : Nat) (hn : n ≤ 1000) (w : World) (hbase : base ≤ w.heap.size) :
    Calls Yba.prog 5 #[.int .i64 n] w fun e w' => e = .returned (.pointer (some ⟨w.heap.size, 0, none⟩)) ∧
      ∃ vl vg, Gr w' base w.heap.size n (List.replicate n (-1)) [] 0 (gw n n) vl (.slice none 0 0) (.slice none 0 0) vg ∧ Step (fun _ => False) (foot w.heap.size vl (.slice none 0 0) (.slice none 0 0) vg) w w' := by
  have h0 : Gr (w.alloc (.cells (grA n (.slice none 0 0) (.slice none 0 0) (.slice none 0 0) (.slice none 0 0)) 40)) base w.heap.size n [] [] 0 (gw n 0) (.slice none 0 0) (.slice none 0 0) (.slice none 0 0) (.slice none 0 0) :=
    ⟨heap_alloc_new w _, hbase, World.ownsRow_nil _ _ _ _, World.ownsRow_nil _ _ _ _, World.ownsRow_nil _ _ _ _, World.ownsRow_nil _ _ _ _, by simp [Off, Value.ownBlock], by simp [Off, Value.ownBlock], by simp [Off, Value.ownBlock], by simp [Off, Value.ownBlock],
     fun _ h => by simp [Value.ownBlock] at h, fun _ h => by simp [Value.ownBlock] at h, fun _ h => by simp [Value.ownBlock] at h, fun _ h => by simp [Value.ownBlock] at h, fun _ h => by simp [Value.ownBlock] at h, fun _ h => by simp [Value.ownBlock] at h⟩
  have hc := nodes_any false n n 0 base w.heap.size n [] [] 0 _ _ _ _ _ h0 rfl (by omega) (fun t _ ht => by simp; omega)
  unfold grA at hc
  go_enter Yba.func5, Yba.ntmps5
  go_wp2_with (first | (go_at_call 10; refine hc.mono ?_; rintro e w1 ⟨rfl, vl, vg, h1, s1⟩))
  go_ret
  refine ⟨rfl, vl, vg, by simpa using h1, ?_⟩
  have s0 : Step (fun _ => False) (foot w.heap.size (.slice none 0 0) (.slice none 0 0) (.slice none 0 0) (.slice none 0 0)) w (w.alloc (.cells (grA n (.slice none 0 0) (.slice none 0 0) (.slice none 0 0) (.slice none 0 0)) 40)) :=
    ((Step.refl (fun _ => False) w).alloc _).to fun k hk => by
      rcases hk with hk | hk | hk | hk | hk
      · exact .inr (by omega)
      all_goals simp [Value.ownBlock] at hk
  exact s0.trans s1

theorem Step.with {F F' : Nat → Prop} {w w' : World} (s : Step F F' w w') (R : Nat) : Step (fun k => k = R ∨ F k) (fun k => k = R ∨ F' k) w w' :=
  ⟨s.os, s.tape, s.output, s.size, fun k hk hF => s.block k hk (fun h => hF (.inr h)), fun k hk => by
    rcases hk with hk | hk
    · exact .inl (.inl hk)
    · rcases s.fresh k hk with h | h
      · exact .inl (.inr h)
      · exact .inr h⟩
theorem Step.out {F F' : Nat → Prop} {w w' : World} (s : Step F F' w w') {k : Nat} (hk : ¬ F k) (hlt : k < w.heap.size) : ¬ F' k := fun h => by
  rcases s.fresh k h with h | h
  · exact hk h
  · omega

/-- The five cells of a versionRuns. -/
def rnA (wb m cm : Nat) (p : Int) : Array Value := #[.slice (some ⟨wb, 0, none⟩) m cm, .int .i64 (-1), .int .i64 p, .pointer none, .pointer none]
/-- 'newVersionRuns(ws)'. -/
theorem runs_new (wb m cm : Nat) (w : World) :
    Calls Yba.prog 6 #[.slice (some ⟨wb, 0, none⟩) m cm] w fun e w' => e = .returned (.pointer (some ⟨w.heap.size, 0, none⟩)) ∧ w' = w.alloc (.cells (rnA wb m cm (-1)) 32) := by
  go_enter Yba.func6, Yba.ntmps6
  go_wp2
  go_ret
  exact ⟨rfl, rfl⟩

structure Rn (w : World) (R wb m cm : Nat) (p : Int) (ws : Nat → Nat) : Prop where
  blk : w.heap[R]? = some (.cells (rnA wb m cm p) 32 (0, 0))
  row : ∀ i, i < m → w.cell? ⟨wb, i, none⟩ = some (.int .i64 (ws i : Int))
theorem Rn.cell {w : World} {R wb m cm : Nat} {p : Int} {ws : Nat → Nat} (h : Rn w R wb m cm p ws) (i : Nat) (v : Value) (hv : (rnA wb m cm p)[i]? = some v) : w.cell? ⟨R, i, none⟩ = some v := by
  rw [cell_of_row w R i _ _ _ h.blk]; exact hv
theorem Rn.f {w : World} {R wb m cm : Nat} {p : Int} {ws : Nat → Nat} (h : Rn w R wb m cm p ws) (i : Nat) : w.frozen? ⟨R, i, none⟩ = false := by simp [World.frozen?, h.blk]
theorem Rn.lt {w : World} {R wb m cm : Nat} {p : Int} {ws : Nat → Nat} (h : Rn w R wb m cm p ws) : R < w.heap.size := World.block_lt_of_cell? w _ (h.cell 1 _ rfl)
theorem Rn.keep {w w' : World} {R wb m cm : Nat} {p : Int} {ws : Nat → Nat} (h : Rn w R wb m cm p ws) (hR : w'.heap[R]? = w.heap[R]?) (hb : w'.heap[wb]? = w.heap[wb]?) : Rn w' R wb m cm p ws :=
  ⟨by rw [hR]; exact h.blk, fun i hi => by rw [World.cell?_of_block (a := ⟨wb, i, none⟩) hb]; exact h.row i hi⟩
theorem Rn.step {F F' : Nat → Prop} {w w' : World} {R wb m cm : Nat} {p : Int} {ws : Nat → Nat} (h : Rn w R wb m cm p ws) (s : Step F F' w w') (hR : ¬ F R) (hb : ¬ F wb) (hlt : wb < w.heap.size) : Rn w' R wb m cm p ws :=
  h.keep (s.block R h.lt hR) (s.block wb hlt hb)
theorem Rn.set {w : World} {R wb m cm : Nat} {p : Int} {ws : Nat → Nat} (h : Rn w R wb m cm p ws) (hne : wb ≠ R) (q : Int) : Rn (w.setCell ⟨R, 2, none⟩ (.int .i64 q)) R wb m cm q ws :=
  ⟨heap_setCell_cells _ _ _ _ _ _ h.blk, fun i hi => by rw [World.cell?_of_block (a := ⟨wb, i, none⟩) (heap_setCell_ne _ _ _ _ _ hne)]; exact h.row i hi⟩

set_option maxHeartbeats 1000000 in
/-- 'r.prefixChain(g)' where the chain is there. -/
theorem chain_set (R G wb m cm : Nat) (p : Int) (ws : Nat → Nat) (w : World) (h : Rn w R wb m cm p ws) (hp : 0 ≤ p) :
    Calls Yba.prog 7 #[.pointer (some ⟨R, 0, none⟩), .pointer (some ⟨G, 0, none⟩)] w fun e w' => e = .returned (.int .i64 p) ∧ w' = w := by
  have c2 : w.cell? ⟨R, 2, none⟩ = some (.int .i64 p) := h.cell 2 _ rfl
  have hp' : ¬ p < 0 := by omega
  go_enter Yba.func7, Yba.ntmps7
  go_wp2
  go_ret
  exact ⟨rfl, rfl⟩

set_option maxHeartbeats 600000 in
set_option maxRecDepth 100000 in
/-- 'r.prefixChain(g)' where it is not. -/
theorem chain_built (n m R G wb cm base : Nat) (p : Int) (ws : Nat → Nat) (vl va vk vg : Value) (w : World) (hr : Rn w R wb m cm p ws) (hp : p < 0) (hw : ∀ i, i < m → ws i < n)
    (hg : Gr w base G n (List.replicate n (-1)) [] 0 (gw n n) vl va vk vg) (hR : ¬ foot G vl va vk vg R) (hb : ¬ foot G vl va vk vg wb) (hlt : wb < w.heap.size) (hne : wb ≠ R) (hn : n ≤ 1000) (hm : m ≤ 65536) :
    Calls Yba.prog 7 #[.pointer (some ⟨R, 0, none⟩), .pointer (some ⟨G, 0, none⟩)] w fun e w' => e = .returned (.int .i64 n) ∧
      ∃ vl' va' vk' vg', Gr w' base G n (stE n m ws m).1 (stE n m ws m).2.1 (stE n m ws m).2.2 (gw n (n + m)) vl' va' vk' vg' ∧ Rn w' R wb m cm n ws ∧
        Step (fun k => k = R ∨ foot G vl va vk vg k) (fun k => k = R ∨ foot G vl' va' vk' vg' k) w w' ∧ ¬ foot G vl' va' vk' vg' R ∧ ¬ foot G vl' va' vk' vg' wb := by
  have c2 : w.cell? ⟨R, 2, none⟩ = some (.int .i64 p) := hr.cell 2 _ rfl
  have c0 : w.cell? ⟨R, 0, none⟩ = some (.slice (some ⟨wb, 0, none⟩) m cm) := hr.cell 0 _ rfl
  go_enter Yba.func7, Yba.ntmps7
  go_wp2_with (first | (go_at_call 10; refine (nodes_any true n m n base G n _ _ _ _ _ _ _ _ hg (by simp) (by omega) (fun t h1 _ => by simp; omega)).mono ?_; rintro e w1 ⟨rfl, vl1, vg1, h1, s1⟩; have hr1 := hr.step s1 hR hb hlt; have d2 : w1.cell? ⟨R, 2, none⟩ = some (.int .i64 p) := hr1.cell 2 _ rfl; have d0 : w1.cell? ⟨R, 0, none⟩ = some (.slice (some ⟨wb, 0, none⟩) m cm) := hr1.cell 0 _ rfl; have df := hr1.f 2))
  have nR1 : ¬ foot G vl1 va vk vg1 R := fun h => by rcases s1.fresh R h with h | h; exact hR h; have := hr.lt; omega
  have nb1 : ¬ foot G vl1 va vk vg1 wb := fun h => by rcases s1.fresh wb h with h | h; exact hb h; omega
  generalize hw2 : w1.setCell ⟨R, 2, none⟩ (.int .i64 (n : Int)) = w2
  have hr2 : Rn w2 R wb m cm n ws := by rw [← hw2]; exact hr1.set hne n
  have hg2 : Gr w2 base G n (stE n m ws 0).1 (stE n m ws 0).2.1 (stE n m ws 0).2.2 (gw n (n + m)) vl1 va vk vg1 := by
    have e : (List.replicate n (-1 : Int) ++ List.replicate m (-1)) = (stE n m ws 0).1 := by simp [stE]
    rw [← e, ← hw2]
    exact h1.keep fun k hk => heap_setCell_ne _ _ _ _ _ (fun e => nR1 (e ▸ hk))
  have s2 : Step (fun k => k = R ∨ foot G vl va vk vg k) (fun k => k = R ∨ foot G vl1 va vk vg1 k) w w2 := by
    have t : Step (fun k => k = R ∨ foot G vl va vk vg k) (fun k => k = R ∨ foot G vl1 va vk vg1 k) w w1 :=
      ⟨s1.os, s1.tape, s1.output, s1.size, fun k hk hF => s1.block k hk (fun h => hF (.inr h)), fun k hk => by
        rcases hk with hk | hk
        · exact .inl (.inl hk)
        · rcases s1.fresh k hk with h | h
          · exact .inl (.inr h)
          · exact .inr h⟩
    rw [← hw2]; exact t.setCell ⟨R, 2, none⟩ _ (.inl rfl)
  have hlt2 : wb < w2.heap.size := Nat.lt_of_lt_of_le hlt s2.size
  clear hw2 hr hr1 hg h1 s1 c2 c0 d2 d0 df
  go_loopw [27] (fun i wr => ∃ (b : Nat) (vl' va' vk' vg' : Value), b ≤ m ∧ i = .int .i64 b ∧ Gr wr base G n (stE n m ws b).1 (stE n m ws b).2.1 (stE n m ws b).2.2 (gw n (n + m)) vl' va' vk' vg' ∧ Rn wr R wb m cm n ws ∧
      Step (fun k => k = R ∨ foot G vl va vk vg k) (fun k => k = R ∨ foot G vl' va' vk' vg' k) w wr ∧ ¬ foot G vl' va' vk' vg' R ∧ ¬ foot G vl' va' vk' vg' wb ∧ wb < wr.heap.size) (fun i _ => m - (intOf i).toNat)
  case atStart => exact ⟨0, _, _, _, _, Nat.zero_le _, rfl, hg2, hr2, s2, nR1, nb1, hlt2⟩
  case round =>
    obtain ⟨b, vl', va', vk', vg', hbm, rfl, hg3, hr3, s3, nR, nb, hlt3⟩ := hrel
    clear hg2 hr2 s2 nR1 nb1 hlt2
    by_cases hbl : b < m
    · have d2 : wr.cell? ⟨R, 2, none⟩ = some (.int .i64 (n : Int)) := hr3.cell 2 _ rfl
      have e0 : wr.cell? ⟨wb, b, none⟩ = some (.int .i64 (ws b : Int)) := hr3.row b hbl
      have hwb := hw b hbl
      have hc := chain_all n m ws hw b (by omega)
      have HE : Hid (stE n m ws (b + 1) = if b = 0 then ((stE n m ws b).1.set (ws b) ((stE n m ws b).2.2 : Int), (stE n m ws b).2.1 ++ [(ws b : Int), ((n + b : Nat) : Int)], (stE n m ws b).2.2 + 1)
        else (((stE n m ws b).1.set (ws b) ((stE n m ws b).2.2 : Int)).set (n + b - 1) (((stE n m ws b).2.2 + 1 : Nat) : Int), ((stE n m ws b).2.1 ++ [(ws b : Int), ((n + b : Nat) : Int)]) ++ [((n + b - 1 : Nat) : Int), ((n + b : Nat) : Int)], (stE n m ws b).2.2 + 1 + 1)) := rfl
      generalize stE n m ws b = st at *
      obtain ⟨L, A, K⟩ := st
      simp only at hg3 hc HE
      have hlen := hc.len
      have htwo := hc.two
      have hfew := hc.few
      obtain ⟨x, hx⟩ : ∃ x, L[ws b]? = some x := ⟨_, List.getElem?_eq_getElem (by omega)⟩
      have en : ((n + b : Nat) : Int) = (n : Int) + (b : Int) := by omega
      have hcall := edge_any base G n L A K (gw n (n + m)) vl' va' vk' vg' wr hg3 (ws b) (n + b) x hx (by omega) (by omega) htwo (by omega) (by
        rcases hc.ent _ _ hx with h | ⟨e, he, hk⟩
        · exact .inl h
        · obtain ⟨y, hy, hyl⟩ := hc.tgt e hk
          exact .inr ⟨e, y, he, hy, by omega⟩)
      have HN : Hid (L[n + b - 1]? = some (-1) ∨ b = 0) := by
        by_cases h0 : b = 0
        · exact .inr h0
        · exact .inl (hc.neg _ (by omega) (by omega))
      have HC : Hid (L.length = n + m ∧ A.length = 2 * K ∧ K ≤ 2 * b) := ⟨hlen, htwo, hfew⟩
      rw [en] at hcall
      clear hx hc hlen htwo en
      have hn2 : (n : Int) ≤ 1000 := by omega
      have hb2 : (b : Int) < (m : Int) := by omega
      have hm2 : (m : Int) ≤ 65536 := by omega
      go_wp2_with (first | (go_at_call 11; refine hcall.mono ?_; rintro e w4 ⟨rfl, va4, vk4, h4, s4⟩))
      · have hb0 : ¬ b = 0 := by omega
        have HE2 : Hid (stE n m ws (b + 1) = ((L.set (ws b) (K : Int)).set (n + b - 1) ((K + 1 : Nat) : Int), (A ++ [(ws b : Int), ((n + b : Nat) : Int)]) ++ [((n + b - 1 : Nat) : Int), ((n + b : Nat) : Int)], K + 1 + 1)) := by have := HE.out; rw [if_neg hb0] at this; exact this
        have hr4 := hr3.step s4 nR nb hlt3
        have k2 : w4.cell? ⟨R, 2, none⟩ = some (.int .i64 (n : Int)) := hr4.cell 2 _ rfl
        have nR4 := s4.out nR hr3.lt
        have nb4 := s4.out nb hlt3
        have hlt4 : wb < w4.heap.size := Nat.lt_of_lt_of_le hlt3 s4.size
        obtain ⟨hl1, hl2, hl3⟩ := HC.out
        have en : ((n + b : Nat) : Int) = (n : Int) + (b : Int) := by omega
        have en1 : ((n + b - 1 : Nat) : Int) = (n : Int) + (b : Int) - 1 := by omega
        have hx2 : (L.set (ws b) (K : Int))[n + b - 1]? = some (-1) := by
          rw [List.getElem?_set_ne (by omega)]
          rcases HN.out with h | h
          · exact h
          · exact absurd h hb0
        have hcall2 := edge_any base G n (L.set (ws b) (K : Int)) (A ++ [(ws b : Int), ((n + b : Nat) : Int)]) (K + 1) (gw n (n + m)) vl' va4 vk4 vg' w4.drew (by rw [en]; exact h4.drew) (n + b - 1) (n + b) (-1) hx2 (by omega) (by simp; omega) (by simp; omega) (by omega) (.inl (by omega))
        have HF : Hid (∀ (w5 : World) (va5 vk5 : Value), Gr w5 base G n ((L.set (ws b) (K : Int)).set (n + b - 1) ((K + 1 : Nat) : Int)) ((A ++ [(ws b : Int), ((n + b : Nat) : Int)]) ++ [((n + b - 1 : Nat) : Int), ((n + b : Nat) : Int)]) (K + 1 + 1) (gw n (n + m)) vl' va5 vk5 vg' → Step (foot G vl' va4 vk4 vg') (foot G vl' va5 vk5 vg') w4.drew w5 →
            ∃ (vl6 va6 vk6 vg6 : Value), Gr w5 base G n (stE n m ws (b + 1)).1 (stE n m ws (b + 1)).2.1 (stE n m ws (b + 1)).2.2 (gw n (n + m)) vl6 va6 vk6 vg6 ∧ Rn w5 R wb m cm n ws ∧
              Step (fun k => k = R ∨ foot G vl va vk vg k) (fun k => k = R ∨ foot G vl6 va6 vk6 vg6 k) w w5 ∧ ¬ foot G vl6 va6 vk6 vg6 R ∧ ¬ foot G vl6 va6 vk6 vg6 wb ∧ wb < w5.heap.size) := fun w5 va5 vk5 h5 s5 => by
          have s5' : Step (foot G vl' va4 vk4 vg') (foot G vl' va5 vk5 vg') w4 w5 := ⟨s5.os, s5.tape, s5.output, s5.size, s5.block, s5.fresh⟩
          rw [HE2.out]
          exact ⟨vl', va5, vk5, vg', h5, hr4.step s5' nR4 nb4 hlt4, (s3.trans (s4.with R)).trans (s5'.with R), s5'.out nR4 hr4.lt, s5'.out nb4 hlt4, Nat.lt_of_lt_of_le hlt4 s5'.size⟩
        rw [en, en1] at hcall2
        rw [en, en1] at HF
        have hq1 : IntKind.i64.wrap ((n : Int) + (b : Int)) = (n : Int) + (b : Int) := by rw [IntKind.wrap_i64]; omega
        have hq2 : IntKind.i64.wrap ((n : Int) + (b : Int) - 1) = (n : Int) + (b : Int) - 1 := by rw [IntKind.wrap_i64]; omega
        clear hcall HN HC HE HE2 hl1 hl2 hl3 hx2 h4 s4 s3 hg3 hr3 hfew en en1 nR nb d2 e0
        go_region_held3 (fun w' => w'.cell? ⟨R, 2, none⟩ = some (.int .i64 (n : Int))) (first | assumption | (simpa using k2)) (first | (go_at_call 11; refine hcall2.mono ?_; rintro e w5 ⟨rfl, va5, vk5, h5, s5⟩; have HQ := HF.out w5 va5 vk5 h5 s5; have k5 : w5.cell? ⟨R, 2, none⟩ = some (.int .i64 (n : Int)) := (by obtain ⟨_, _, _, _, _, hq, _⟩ := HQ; exact hq.cell 2 _ rfl); have HQ2 : Hid _ := HQ; clear HQ h5 s5))
        go_wp2
        go_roundw
        case rel =>
          obtain ⟨v1, v2, v3, v4, hq⟩ := HQ2.out
          exact ⟨b + 1, v1, v2, v3, v4, by omega, by go_num, hq⟩
        case measure => simp [intOf]; omega
      · have hb0 : b = 0 := by omega
        have HE2 : Hid (stE n m ws (b + 1) = (L.set (ws b) (K : Int), A ++ [(ws b : Int), ((n + b : Nat) : Int)], K + 1)) := by have := HE.out; rw [if_pos hb0] at this; exact this
        go_roundw
        case rel =>
          refine ⟨b + 1, vl', va4, vk4, vg', by omega, by go_num, ?_, hr3.step s4 nR nb hlt3, s3.trans (s4.with R), s4.out nR hr3.lt, s4.out nb hlt3, Nat.lt_of_lt_of_le hlt3 s4.size⟩
          rw [HE2.out, Int.natCast_add]; exact h4
        case measure => simp [intOf]; omega
    · have e : b = m := by omega
      subst e
      have d2 : wr.cell? ⟨R, 2, none⟩ = some (.int .i64 (n : Int)) := hr3.cell 2 _ rfl
      go_wp2
      go_ret
      exact ⟨rfl, _, _, _, _, hg3, hr3, s3, nR, nb⟩

end Go.Proofs.Ybulkdvbs

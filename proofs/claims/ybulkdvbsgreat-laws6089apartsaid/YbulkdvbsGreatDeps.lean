/-
  conflictDependencies: its own word; the closure that looks a group up; pointers compared.
-/
import Derived.Test.YbulkdvbsGreatDense
import Derived.Test.YbulkdvbsGreatCycA
import Derived.LaidEql
namespace Go.Proofs.YbulkdvbsGreat
open Go.RowKit Go.Shelf

theorem run_same_other (w : World) {g g' : Nat} (hne : g ≠ g') (h : IsC w g) (h' : IsC w g') : (sameAddr ⟨g, 0, none⟩ ⟨g', 0, none⟩).run Ybaz.prog w = .ok false w := by
  obtain ⟨⟨c, t, z, e⟩, f⟩ := h
  obtain ⟨⟨c', t', z', e'⟩, f'⟩ := h'
  have f0 := f 0
  have f1 := f c.size
  have f0' := f' 0
  have f1' := f' c'.size
  simp [World.frozen?, e, e'] at f0 f1 f0' f1'
  have n0 : ¬ (z.fst = 0 ∧ 0 < z.snd) := fun q => by have := f0 q.1; omega
  have n1 : ¬ (z.fst ≤ c.size ∧ c.size < z.snd) := fun q => by have := f1 q.1; omega
  have n0' : ¬ (z'.fst = 0 ∧ 0 < z'.snd) := fun q => by have := f0' q.1; omega
  have n1' : ¬ (z'.fst ≤ c'.size ∧ c'.size < z'.snd) := fun q => by have := f1' q.1; omega
  simp [sameAddr, hne, World.frozen?, e, e', noView, viewAt, World.shape?, mayBeOne, stringish, n0, n1, n0', n1']
/-- The last group's address. -/
def gAddr (q : Option Nat) : Option Addr := q.map (fun g => ⟨g, 0, none⟩)
theorem info21s : ∃ j, Ybaz.prog.info? 21 = some j ∧ j.size ≠ 0 := by
  obtain ⟨i, h1, _, h3, _⟩ := inf21
  exact ⟨i, h1, by omega⟩
theorem run_neq93 (w : World) (q : Option Nat) (GR : Nat) (h : ∀ g, q = some g → IsC w g) (h' : IsC w GR) :
    (binOp .neq 93 (.pointer (gAddr q)) (.pointer (some ⟨GR, 0, none⟩))).run Ybaz.prog w = .ok (.bool (decide (q ≠ some GR))) w := by
  obtain ⟨j, hj, hs⟩ := info21s
  cases q with
  | none =>
    have h2 : ∀ d : Nat, (Op.equalIn (d + 1) 93 (.pointer none) (.pointer (some ⟨GR, 0, none⟩))).run Ybaz.prog w = .ok false w := fun d => by
      simp [Op.equalIn, run_underlying Ybaz.underlying93]
    simp only [binOp]
    simp [Op.equal, Op.maxDepth, h2 9999, gAddr]
  | some g =>
    by_cases e : g = GR
    · subst e
      have := Lib.run_neq_ptr_same w (P := Ybaz.prog) (tp := 93) (te := 21) (⟨g, 0, none⟩ : Addr) Ybaz.underlying93 hj
      simpa [gAddr] using this
    · have r := run_same_other w e (h g rfl) h'
      have h2 : ∀ d : Nat, (Op.equalIn (d + 1) 93 (.pointer (some ⟨g, 0, none⟩)) (.pointer (some ⟨GR, 0, none⟩))).run Ybaz.prog w = .ok false w := fun d => by
        simp [Op.equalIn, run_underlying Ybaz.underlying93, sizeOf, typeInfo, hj, hs, r]
      simp only [binOp]
      simp [Op.equal, Op.maxDepth, h2 9999, gAddr, e]
/-- The word of deps: the last group q; the touches; the writes; D its blocks. -/
structure DS (n keys p1 p2 p3 p4 p5 p6 SB NS sc : Nat) (su sl : Nat → Nat) (sk : Nat → Int) (q : Option Nat) (w : World) (D : Nat → Prop) (ta : Option Addr) (tl tc : Nat) (tv : Nat → Nat) (wa : Option Addr) (wl wc : Nat) (wv : Nat → Nat) : Prop where
  b1 : w.heap[p1]? = some (.cells #[.pointer (gAddr q)] 93)
  b2 : w.heap[p2]? = some (.cells #[.int .i64 (n : Int)] 3)
  b3 : w.heap[p3]? = some (.cells #[.slice ta tl tc] 95)
  b4 : w.heap[p4]? = some (.cells #[.slice wa wl wc] 95)
  b5 : w.heap[p5]? = some (.cells #[.slice (some ⟨SB, 0, none⟩) NS sc] 71)
  b6 : w.heap[p6]? = some (.cells #[.int .i64 (keys : Int)] 3)
  sp : SP w SB NS n keys su sl (fun i => sl i + 1) sk
  vt : Vec w 21 1 ta tl tc (fun i _ => .int .i32 (tv i : Int))
  vw : Vec w 21 1 wa wl wc (fun i _ => .int .i32 (wv i : Int))
  ht : ∀ i, i < tl → tv i < NS
  hw : ∀ i, i < wl → wv i < NS
  lt : tl ≤ NS ∧ wl ≤ NS
  ne : ∀ b, ta = some ⟨b, 0, none⟩ → ¬ wa = some ⟨b, 0, none⟩
  d : D p1 ∧ D p2 ∧ D p3 ∧ D p4 ∧ D p5 ∧ D p6 ∧ D SB
  dt : ∀ b, ta = some ⟨b, 0, none⟩ → D b
  dw : ∀ b, wa = some ⟨b, 0, none⟩ → D b
  ns : (∀ b, ta = some ⟨b, 0, none⟩ → b ≠ SB) ∧ ∀ b, wa = some ⟨b, 0, none⟩ → b ≠ SB
theorem DS.keep {n keys p1 p2 p3 p4 p5 p6 SB NS sc : Nat} {su sl : Nat → Nat} {sk : Nat → Int} {q : Option Nat} {w w' : World} {D : Nat → Prop} {ta : Option Addr} {tl tc : Nat} {tv : Nat → Nat} {wa : Option Addr} {wl wc : Nat} {wv : Nat → Nat} (h : DS n keys p1 p2 p3 p4 p5 p6 SB NS sc su sl sk q w D ta tl tc tv wa wl wc wv) {F : Nat → Prop} (k : Keep F w w') (hF : ∀ b, D b → ¬ F b) {D' : Nat → Prop} (hD : ∀ b, D b → D' b) : DS n keys p1 p2 p3 p4 p5 p6 SB NS sc su sl sk q w' D' ta tl tc tv wa wl wc wv := by
  obtain ⟨d1, d2, d3, d4, d5, d6, d7⟩ := h.d
  exact ⟨k.at h.b1 (hF _ d1), k.at h.b2 (hF _ d2), k.at h.b3 (hF _ d3), k.at h.b4 (hF _ d4), k.at h.b5 (hF _ d5), k.at h.b6 (hF _ d6), h.sp.keep k (hF _ d7), h.vt.keep k (fun b e => hF b (h.dt b e)), h.vw.keep k (fun b e => hF b (h.dw b e)), h.ht, h.hw, h.lt, h.ne, ⟨hD _ d1, hD _ d2, hD _ d3, hD _ d4, hD _ d5, hD _ d6, hD _ d7⟩, fun b e => hD b (h.dt b e), fun b e => hD b (h.dw b e), h.ns⟩
/-- .. as a word on worlds. -/
def DEf (n keys p1 p2 p3 p4 p5 p6 SB NS sc : Nat) (su sl : Nat → Nat) (sk : Nat → Int) : Option Nat → World → (Nat → Prop) → Prop := fun q w D => (∀ b, D b → b < w.heap.size) ∧ ∃ ta tl tc tv wa wl wc wv, DS n keys p1 p2 p3 p4 p5 p6 SB NS sc su sl sk q w D ta tl tc tv wa wl wc wv
theorem DEf.keep (n keys p1 p2 p3 p4 p5 p6 SB NS sc : Nat) (su sl : Nat → Nat) (sk : Nat → Int) (q : Option Nat) (w w' : World) (D : Nat → Prop) (h : DEf n keys p1 p2 p3 p4 p5 p6 SB NS sc su sl sk q w D) (k : Keep (fun b => ¬ D b) w w') : DEf n keys p1 p2 p3 p4 p5 p6 SB NS sc su sl sk q w' D := by
  obtain ⟨hl, ta, tl, tc, tv, wa, wl, wc, wv, h⟩ := h
  exact ⟨fun b hb => Nat.lt_of_lt_of_le (hl b hb) k.size, ta, tl, tc, tv, wa, wl, wc, wv, h.keep k (fun b hb q => q hb) (fun _ q => q)⟩
theorem Vec.zero {w : World} {e : TypeId} {k : Nat} {a : Option Addr} {n c : Nat} {f : Nat → Nat → Value} (h : Vec w e k a n c f) : Vec w e k a 0 c f := by
  refine ⟨by simp [rowK], ?_⟩
  rcases h.own.2 with ⟨h0, h1⟩ | ⟨g, cap, cur, hv, h1, hb, hle, hm, hsz, ht⟩
  · left
    simp only [Value.slice.injEq] at h0
    exact ⟨by simp [h0.1, h0.2.2], rfl⟩
  · right
    simp only [Value.slice.injEq] at hv
    refine ⟨g, cap, cur, by simp [hv.1, hv.2.2], h1, hb, Nat.zero_le _, hm, hsz, ?_⟩
    simp [rowK]
theorem gkey (x : Int) (h : -1 ≤ x ∧ x < 5) : keyOf Ybaz.prog 21 (.int .i32 x) = some (.int .i32 x) := by
  refine Maps.keyOf_int_mk Ybaz.underlying21 ?_
  have : x = -1 ∨ x = 0 ∨ x = 1 ∨ x = 2 ∨ x = 3 ∨ x = 4 := by omega
  rcases this with rfl | rfl | rfl | rfl | rfl | rfl <;> decide
set_option maxHeartbeats 2000000 in
set_option maxRecDepth 100000 in
/-- conflictDependencies$1$2. -/
theorem bucket2 (bD mb mn pG GR pS SB NS sc n keys : Nat) (gr : Nat → Int) (m : Int → Option Value) (su sl sh : Nat → Nat) (sk : Nat → Int) (i : Nat) (v : Nat) (w : World) (h : SP w SB NS n keys su sl sh sk) (hn : n ≤ 5) (hp : w.heap[pS]? = some (.cells #[.slice (some ⟨SB, 0, none⟩) NS sc] 71)) (hg : w.heap[pG]? = some (.cells #[.slice (some ⟨GR, 0, none⟩) n n] 95)) (hr : Row w GR n (fun i => .int .i32 (gr i))) (hgr : ∀ i, i < n → -1 ≤ gr i ∧ gr i < n) (hd : w.heap[bD]? = some (.cells #[.map (some mb)] 139)) (hm : MP w 21 mb mn (intM .i32 m)) (hi : i < NS) (hv : (m (gr (su i))).getD (.int .i64 0) = .int .i64 (v : Int)) :
    Calls Ybaz.prog 59 #[.int .i32 (i : Int), .pointer (some ⟨bD, 0, none⟩), .pointer (some ⟨pG, 0, none⟩), .pointer (some ⟨pS, 0, none⟩)] w fun e w' => e = .returned (.int .i64 (v : Int)) ∧ Keep (fun _ => False) w w' := by
  have c0 : w.cell? ⟨pS, 0, none⟩ = some (.slice (some ⟨SB, 0, none⟩) NS sc) := cell_of _ _ 0 _ _ hp
  have c1 : w.cell? ⟨pG, 0, none⟩ = some (.slice (some ⟨GR, 0, none⟩) n n) := cell_of _ _ 0 _ _ hg
  have c2 : w.cell? ⟨bD, 0, none⟩ = some (.map (some mb)) := cell_of _ _ 0 _ _ hd
  obtain ⟨e0, e1, e2, e3⟩ := h.cell i hi
  have hun := h.hu i hi
  have er := hr.cell (su i) hun
  have i1 : (i : Int) < (NS : Int) := by omega
  have i2 : (i : Int).toNat = i := by omega
  have u1 : (su i : Int) < (n : Int) := by omega
  have u2 : (su i : Int).toNat = su i := by omega
  have hgx := hgr (su i) hun
  have hL := (hm.keep (Keep.refl (fun _ => False) w).drew id).look keyed21 Ybaz.underlying139 (zero3 _) (gkey (gr (su i)) (by omega))
  rw [intM_int, hv] at hL
  have HK : Hid _ := (Keep.refl (fun _ => False) w).drew
  clear h hp hg hr hd hm hgr hv
  go_enter Ybaz.func59, Ybaz.ntmps59
  go_upto_region 1 with fail
  go_region
  clear hL c0 c1 c2 e0 e1 e2 e3 er
  generalize w.drew = w1 at *
  go_wp2
  go_ret
  exact ⟨rfl, HK.out⟩
theorem keys_len {m : Lit → Option Value} {L L' : List Lit} (h : KeysOf m L) (h' : KeysOf m L') : L.length = L'.length :=
  List.Perm.length_eq ((List.perm_ext_iff_of_nodup h.1 h'.1).2 (fun l => (h.2 l).trans (h'.2 l).symm))
theorem keys_le {m m' : Lit → Option Value} {L L' : List Lit} (h : KeysOf m L) (h' : KeysOf m' L') (hs : ∀ l, (m l).isSome = true → (m' l).isSome = true) : L.length ≤ L'.length := by
  classical
  have e : L.length = (L'.filter fun l => decide (l ∈ L)).length := by
    refine List.Perm.length_eq ((List.perm_ext_iff_of_nodup h.1 (h'.1.sublist List.filter_sublist)).2 (fun l => ?_))
    rw [List.mem_filter]
    exact ⟨fun q => ⟨(h'.2 l).2 (hs l ((h.2 l).1 q)), by simpa using q⟩, fun q => by simpa using q.2⟩
  rw [e]
  exact List.length_filter_le _ _
theorem MP.keys {w : World} {k : TypeId} {b n : Nat} {m : Lit → Option Value} (h : MP w k b n m) (K : Maps.Keyed Ybaz.prog k) : ∃ L, KeysOf m L ∧ MP w k b L.length m := by
  obtain ⟨D, ho, v⟩ := h
  obtain ⟨L, hL, hl⟩ := view_keys ho K v
  refine ⟨L, hL, D, ?_, v⟩
  obtain ⟨es, c, h1, h2, h3, h4⟩ := ho
  refine ⟨es, c, h1, h2, ?_, h4⟩
  rw [hl, h4]
  simp [Maps.size, length_sorted]
theorem keys6 {m : Int → Option Value} {L : List Lit} (h : KeysOf (intM .i32 m) L) (hm : ∀ x, (m x).isSome = true → -1 ≤ x ∧ x < 5) : L.length ≤ 6 := by
  have := keys_count h ([-1, 0, 1, 2, 3, 4].map (Lit.int .i32)) (by simp) (fun l hl => by
    obtain ⟨x, rfl, hx⟩ := intM_some hl
    have hb := hm x hx
    have : x = -1 ∨ x = 0 ∨ x = 1 ∨ x = 2 ∨ x = 3 ∨ x = 4 := by omega
    rcases this with rfl | rfl | rfl | rfl | rfl | rfl <;> simp)
  rw [this]
  refine Nat.le_trans (List.length_filter_le _ _) ?_
  simp
/-- Numbers in a block, as a slice. -/
theorem Vec.ofCT {w : World} {b n : Nat} {f : Nat → Value} (h : CT w b n) (r : Row w b n f) (hn : n ≤ 2097152) : Vec w 21 1 (some ⟨b, 0, none⟩) n n (fun i _ => f i) := by
  obtain ⟨cur, hb, hs⟩ := h
  refine ⟨by rw [rowK_len], .inr ⟨b, n, cur, rfl, Nat.zero_le _, hb, Nat.le_refl _, by unfold maxLen; omega, by omega, ?_⟩⟩
  apply List.ext_getElem?
  intro j
  by_cases hj : j < n * 1
  · rw [List.getElem?_take_of_lt hj, rowK_at _ _ _ _ hj]
    have := r.cell j (by omega)
    rw [cell_of _ _ _ _ _ hb] at this
    simpa using this
  · rw [List.getElem?_eq_none (by rw [List.length_take]; omega), List.getElem?_eq_none (by rw [rowK_len]; omega)]
end Go.Proofs.YbulkdvbsGreat

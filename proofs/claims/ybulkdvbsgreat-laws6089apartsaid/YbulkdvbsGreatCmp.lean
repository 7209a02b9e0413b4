/-
  cmp.Compare, cmp.Or; the closures of conflictDependencies; BinarySearchFunc, walked.
-/
import Derived.Test.YbulkdvbsGreatBuck
import Derived.Test.YbulkdvbsGreatSortI
namespace Go.Proofs.YbulkdvbsGreat
open Go.RowKit

set_option maxHeartbeats 2000000 in
set_option maxRecDepth 100000 in
theorem nanI (x : Int) (w : World) : Calls Ybaz.prog 119 #[.int .i64 x] w fun e w' => e = .returned (.bool false) ∧ w = w' := by
  go_enter Ybaz.func119, Ybaz.ntmps119
  go_wp2
  go_ret
  exact ⟨by simp, rfl⟩
/-- How two numbers compare. -/
def cmpI (x y : Int) : Int := if x < y then -1 else if y < x then 1 else 0
set_option maxHeartbeats 2000000 in
set_option maxRecDepth 100000 in
theorem compare32 (x y : Int) (w : World) : Calls Ybaz.prog 32 #[.int .i32 x, .int .i32 y] w fun e w' => e = .returned (.int .i64 (cmpI x y)) ∧ w' = w := by
  have HN := fun (_ : Unit) (z : Int) (W : World) => nan_i32 z W
  by_cases h1 : x < y
  · go_enter Ybaz.func32, Ybaz.ntmps32
    go_wp2_with (go_at_call 99; refine (HN () _ _).mono ?_; rintro e w2 ⟨rfl, rfl⟩)
    go_ret
    exact ⟨by unfold cmpI; rw [if_pos (by omega)]; rfl, rfl⟩
  · by_cases h2 : y < x
    · go_enter Ybaz.func32, Ybaz.ntmps32
      go_wp2_with (go_at_call 99; refine (HN () _ _).mono ?_; rintro e w2 ⟨rfl, rfl⟩)
      go_ret
      exact ⟨by unfold cmpI; rw [if_neg (by omega), if_pos (by omega)]; rfl, rfl⟩
    · go_enter Ybaz.func32, Ybaz.ntmps32
      go_wp2_with (go_at_call 99; refine (HN () _ _).mono ?_; rintro e w2 ⟨rfl, rfl⟩)
      go_ret
      exact ⟨by unfold cmpI; rw [if_neg (by omega), if_neg (by omega)]; rfl, rfl⟩
set_option maxHeartbeats 2000000 in
set_option maxRecDepth 100000 in
theorem compareI (x y : Int) (w : World) : Calls Ybaz.prog 62 #[.int .i64 x, .int .i64 y] w fun e w' => e = .returned (.int .i64 (cmpI x y)) ∧ w' = w := by
  have HN := fun (_ : Unit) (z : Int) (W : World) => nanI z W
  by_cases h1 : x < y
  · go_enter Ybaz.func62, Ybaz.ntmps62
    go_wp2_with (go_at_call 119; refine (HN () _ _).mono ?_; rintro e w2 ⟨rfl, rfl⟩)
    go_ret
    exact ⟨by unfold cmpI; rw [if_pos (by omega)]; rfl, rfl⟩
  · by_cases h2 : y < x
    · go_enter Ybaz.func62, Ybaz.ntmps62
      go_wp2_with (go_at_call 119; refine (HN () _ _).mono ?_; rintro e w2 ⟨rfl, rfl⟩)
      go_ret
      exact ⟨by unfold cmpI; rw [if_neg (by omega), if_pos (by omega)]; rfl, rfl⟩
    · go_enter Ybaz.func62, Ybaz.ntmps62
      go_wp2_with (go_at_call 119; refine (HN () _ _).mono ?_; rintro e w2 ⟨rfl, rfl⟩)
      go_ret
      exact ⟨by unfold cmpI; rw [if_neg (by omega), if_neg (by omega)]; rfl, rfl⟩
/-- It answers a number. -/
def RetI (e : Ending) : Prop := ∃ x : Int, e = .returned (.int .i64 x)
set_option maxHeartbeats 2000000 in
set_option maxRecDepth 100000 in
theorem orI (b c : Nat) (x y : Int) (w : World) (h0 : w.cell? ⟨b, 0, none⟩ = some (.int .i64 x)) (h1 : w.cell? ⟨b, 1, none⟩ = some (.int .i64 y)) : Calls Ybaz.prog 31 #[.slice (some ⟨b, 0, none⟩) 2 c] w fun e w' => RetI e ∧ w = w' := by
  go_enter Ybaz.func31, Ybaz.ntmps31
  go_wp2
  refine wp_loop_rounds 3 ?_
  rw [rounds_succ]
  by_cases hx : x = 0
  · subst hx
    go_wp2
    rw [rounds_succ]
    by_cases hy : y = 0
    · subst hy
      go_wp2
      rw [rounds_succ]
      go_wp2
      go_ret
      exact ⟨⟨_, rfl⟩, rfl⟩
    · have q : (y != 0) = true := by simpa using hy
      go_wp2
      go_ret
      exact ⟨⟨_, rfl⟩, rfl⟩
  · have q : (x != 0) = true := by simpa using hx
    go_wp2
    go_ret
    exact ⟨⟨_, rfl⟩, rfl⟩

/-- The steps: NS of them, in block SB. -/
structure SP (w : World) (SB NS n keys : Nat) (su sl sh : Nat → Nat) (sk : Nat → Int) : Prop where
  row : RowK w SB NS 4 (fun i c => if c = 0 then .int .i64 (su i : Int) else if c = 1 then .int .i64 (sl i : Int) else if c = 2 then .int .i64 (sh i : Int) else .int .u8 (sk i))
  hu : ∀ i, i < NS → su i < n
  hl : ∀ i, i < NS → sl i < keys
  hk : ∀ i, i < NS → sk i = 114 ∨ sk i = 119
  lt : SB < w.heap.size
theorem SP.keep {w w' : World} {SB NS n keys : Nat} {su sl sh : Nat → Nat} {sk : Nat → Int} (h : SP w SB NS n keys su sl sh sk) {F : Nat → Prop} (k : Keep F w w') (hF : ¬ F SB) : SP w' SB NS n keys su sl sh sk :=
  ⟨h.row.keep (k.block SB h.lt hF), h.hu, h.hl, h.hk, Nat.lt_of_lt_of_le h.lt k.size⟩
theorem SP.cell {w : World} {SB NS n keys : Nat} {su sl sh : Nat → Nat} {sk : Nat → Int} (h : SP w SB NS n keys su sl sh sk) (i : Nat) (hi : i < NS) : w.cell? ⟨SB, i * 4, none⟩ = some (.int .i64 (su i : Int)) ∧ w.cell? ⟨SB, i * 4 + 1, none⟩ = some (.int .i64 (sl i : Int)) ∧ w.cell? ⟨SB, i * 4 + 2, none⟩ = some (.int .i64 (sh i : Int)) ∧ w.cell? ⟨SB, i * 4 + 3, none⟩ = some (.int .u8 (sk i)) :=
  ⟨h.row.cell i 0 hi (by omega), h.row.cell i 1 hi (by omega), h.row.cell i 2 hi (by omega), h.row.cell i 3 hi (by omega)⟩

set_option maxHeartbeats 2000000 in
set_option maxRecDepth 100000 in
/-- conflictDependencies$1$1. -/
theorem bucket1 (pS SB NS sc n keys : Nat) (su sl sh : Nat → Nat) (sk : Nat → Int) (w : World) (h : SP w SB NS n keys su sl sh sk) (hp : w.heap[pS]? = some (.cells #[.slice (some ⟨SB, 0, none⟩) NS sc] 71)) (i : Nat) (hi : i < NS) :
    Calls Ybaz.prog 58 #[.int .i32 (i : Int), .pointer (some ⟨pS, 0, none⟩)] w fun e w' => e = .returned (.int .i64 (sl i : Int)) ∧ Keep (fun _ => False) w w' := by
  have c0 : w.cell? ⟨pS, 0, none⟩ = some (.slice (some ⟨SB, 0, none⟩) NS sc) := cell_of _ _ 0 _ _ hp
  obtain ⟨e0, e1, e2, e3⟩ := h.cell i hi
  have i1 : (i : Int) < (NS : Int) := by omega
  have i2 : (i : Int).toNat = i := by omega
  clear h hp
  go_enter Ybaz.func58, Ybaz.ntmps58
  go_wp2
  go_ret
  exact ⟨rfl, Keep.refl _ _⟩

set_option maxHeartbeats 8000000 in
set_option maxRecDepth 100000 in
/-- conflictDependencies$1$3. -/
theorem cmp3_any (pG GR pS SB NS sc pC n keys : Nat) (gr : Nat → Int) (cv : Int) (su sl sh : Nat → Nat) (sk : Nat → Int) (ru rl rh rk : Int) (i : Nat) (w : World) (h : SP w SB NS n keys su sl sh sk) (hp : w.heap[pS]? = some (.cells #[.slice (some ⟨SB, 0, none⟩) NS sc] 71)) (hg : w.heap[pG]? = some (.cells #[.slice (some ⟨GR, 0, none⟩) n n] 95)) (hr : Row w GR n (fun i => .int .i32 (gr i))) (hc : w.heap[pC]? = some (.cells #[.int .i32 cv] 21)) (hi : i < NS) :
    Calls Ybaz.prog 61 #[.int .i32 (i : Int), .agg #[.int .i64 ru, .int .i64 rl, .int .i64 rh, .int .u8 rk], .pointer (some ⟨pG, 0, none⟩), .pointer (some ⟨pS, 0, none⟩), .pointer (some ⟨pC, 0, none⟩)] w fun e w' => RetI e ∧ Keep (fun _ => False) w w' := by
  have kb := Keep.alloc (fun _ => False) w (.cells #[.int .i64 ru, .int .i64 rl, .int .i64 rh, .int .u8 rk] 131)
  have hb : (w.alloc (.cells #[.int .i64 ru, .int .i64 rl, .int .i64 rh, .int .u8 rk] 131)).heap[w.heap.size]? = some (.cells #[.int .i64 ru, .int .i64 rl, .int .i64 rh, .int .u8 rk] 131) := heap_alloc_new _ _
  have cG : (w.alloc (.cells #[.int .i64 ru, .int .i64 rl, .int .i64 rh, .int .u8 rk] 131)).cell? ⟨pG, 0, none⟩ = some (.slice (some ⟨GR, 0, none⟩) n n) := cell_of _ _ 0 _ _ (kb.at hg id)
  have cS : (w.alloc (.cells #[.int .i64 ru, .int .i64 rl, .int .i64 rh, .int .u8 rk] 131)).cell? ⟨pS, 0, none⟩ = some (.slice (some ⟨SB, 0, none⟩) NS sc) := cell_of _ _ 0 _ _ (kb.at hp id)
  have cC : (w.alloc (.cells #[.int .i64 ru, .int .i64 rl, .int .i64 rh, .int .u8 rk] 131)).cell? ⟨pC, 0, none⟩ = some (.int .i32 cv) := cell_of _ _ 0 _ _ (kb.at hc id)
  have cR : (w.alloc (.cells #[.int .i64 ru, .int .i64 rl, .int .i64 rh, .int .u8 rk] 131)).cell? ⟨w.heap.size, 1, none⟩ = some (.int .i64 rl) := cell_of _ _ 1 _ _ hb
  obtain ⟨e0, e1, e2, e3⟩ := (h.keep kb id).cell i hi
  have hun := h.hu i hi
  have hGR : GR < w.heap.size := by
    have := hr.cell (su i) hun
    by_cases q : GR < w.heap.size
    · exact q
    · have e : w.heap[GR]? = none := Array.getElem?_eq_none (by omega)
      simp [World.cell?, e] at this
  have eg : (w.alloc (.cells #[.int .i64 ru, .int .i64 rl, .int .i64 rh, .int .u8 rk] 131)).cell? ⟨GR, su i, none⟩ = some (.int .i32 (gr (su i))) := (kb.cell ⟨GR, su i, none⟩ hGR id).trans (hr.cell (su i) hun)
  have i1 : (i : Int) < (NS : Int) := by omega
  have i2 : (i : Int).toNat = i := by omega
  have u1 : (su i : Int) < (n : Int) := by omega
  have u2 : (su i : Int).toNat = su i := by omega
  have HK : Hid _ := kb
  have HC32 := fun (_ : Unit) (x y : Int) (W : World) => compare32 x y W
  have HCI := fun (_ : Unit) (x y : Int) (W : World) => compareI x y W
  clear h hp hg hr hc kb hb
  go_enter Ybaz.func61, Ybaz.ntmps61
  go_upto_region 1 with fail
  generalize hw1 : w.alloc (.cells #[.int .i64 ru, .int .i64 rl, .int .i64 rh, .int .u8 rk] 131) = w1 at *
  generalize w.heap.size = bR at *
  go_region_held3 (fun w' => w'.cell? ⟨pG, 0, none⟩ = some (.slice (some ⟨GR, 0, none⟩) n n) ∧ w'.cell? ⟨pS, 0, none⟩ = some (.slice (some ⟨SB, 0, none⟩) NS sc) ∧ w'.cell? ⟨pC, 0, none⟩ = some (.int .i32 cv) ∧ w'.cell? ⟨bR, 1, none⟩ = some (.int .i64 rl) ∧ w'.cell? ⟨SB, i * 4, none⟩ = some (.int .i64 (su i : Int)) ∧ w'.cell? ⟨SB, i * 4 + 1, none⟩ = some (.int .i64 (sl i : Int)) ∧ w'.cell? ⟨GR, su i, none⟩ = some (.int .i32 (gr (su i)))) (first | assumption | go_keep) (first
    | (go_at_call 32; refine (HC32 () _ _ _).mono ?_; rintro e w2 ⟨rfl, rfl⟩)
    | (go_at_call 62; refine (HCI () _ _ _).mono ?_; rintro e w2 ⟨rfl, rfl⟩)
    | (go_at_call 31; refine (orI _ _ (cmpI (gr (su i)) cv) (cmpI (sl i : Int) rl) _ (by first | exact cell_of _ _ 0 _ _ (heap_alloc_new _ _) | exact cell_of (World.drew _) _ 0 _ _ (heap_alloc_new _ _)) (by first | exact cell_of _ _ 1 _ _ (heap_alloc_new _ _) | exact cell_of (World.drew _) _ 1 _ _ (heap_alloc_new _ _))).mono ?_; rintro e w3 ⟨⟨x, rfl⟩, rfl⟩))
  go_wp2
  go_ret
  exact ⟨⟨_, rfl⟩, (HK.out.trans (Keep.alloc (fun _ => False) _ _) (fun _ q => q.elim)).drew⟩

/-- A place, and whether it is the one. -/
def RetP (N : Nat) (e : Ending) : Prop := ∃ (p : Nat) (b : Bool), e = .returned (.tuple #[.int .i64 (p : Int), .bool b]) ∧ p ≤ N
set_option maxHeartbeats 8000000 in
set_option maxRecDepth 100000 in
theorem bsf_any (items : Value) (N : Nat) (xv : Nat → Int) (ru rl rh rk : Int) (fn : Nat) (caps : Array Value) (w : World) (hcf : ∀ args W, (callFunc fn args).run Ybaz.prog W = .ok (.enter fn args) W) (hN : N ≤ 60000) (hit : Src1 w items N (fun i => .int .i32 (xv i)))
    (hB : ∀ W, Keep (fun _ => False) w W → ∀ i, i < N → Calls Ybaz.prog fn (#[.int .i32 (xv i), .agg #[.int .i64 ru, .int .i64 rl, .int .i64 rh, .int .u8 rk]] ++ caps) W fun e w' => RetI e ∧ Keep (fun _ => False) W w') :
    Calls Ybaz.prog 60 #[items, .agg #[.int .i64 ru, .int .i64 rl, .int .i64 rh, .int .u8 rk], .func (.func fn) #[] caps] w fun e w' => RetP N e ∧ Keep (fun _ => False) w w' := by
  obtain ⟨ia, ic, rfl⟩ : ∃ a c, items = .slice a N c := by
    rcases hit with ⟨rfl, rfl⟩ | ⟨B, o, c, rfl, _⟩
    · exact ⟨none, 0, rfl⟩
    · exact ⟨_, c, rfl⟩
  have HIT : Hid (0 < N → ∃ B o, ia = some ⟨B, o, none⟩ ∧ B < w.heap.size ∧ ∀ i, i < N → w.cell? ⟨B, o + i, none⟩ = some (.int .i32 (xv i))) := by
    intro h0
    rcases hit with ⟨_, q⟩ | ⟨B, o, c, q, h⟩
    · omega
    · injection q with q
      refine ⟨B, o, q, ?_, h⟩
      by_cases e : B < w.heap.size
      · exact e
      · have := h 0 h0
        have e : w.heap[B]? = none := Array.getElem?_eq_none (by omega)
        simp [World.cell?, e] at this
  have HB : Hid _ := hB
  clear hit hB
  have kb := Keep.alloc (fun _ => False) w (.cells #[.int .i64 ru, .int .i64 rl, .int .i64 rh, .int .u8 rk] 131)
  have hb : (w.alloc (.cells #[.int .i64 ru, .int .i64 rl, .int .i64 rh, .int .u8 rk] 131)).heap[w.heap.size]? = some (.cells #[.int .i64 ru, .int .i64 rl, .int .i64 rh, .int .u8 rk] 131) := heap_alloc_new _ _
  have HKB : Hid _ := kb
  have HBB : Hid _ := hb
  clear kb hb
  go_enter Ybaz.func60, Ybaz.ntmps60
  go_wp2
  generalize w.alloc (.cells #[.int .i64 ru, .int .i64 rl, .int .i64 rh, .int .u8 rk] 131) = w1 at *
  generalize hbR : w.heap.size = bR at *
  go_loopg [9, 10] N (fun gk s9 s10 wr => ∃ i j : Nat, i ≤ j ∧ j ≤ N ∧ s9 = .int .i64 (i : Int) ∧ s10 = .int .i64 (j : Int) ∧ gk = j - i ∧ Hid (Keep (fun _ => False) w1 wr))
  case atStart => exact ⟨0, N, Nat.zero_le _, Nat.le_refl _, rfl, rfl, rfl, Keep.refl _ _⟩
  case round =>
    obtain ⟨i, j, hij, hj, rfl, rfl, rfl, HK⟩ := hrel
    have hKw : Keep (fun _ => False) w wr := HKB.out.trans HK.out (fun _ q => q.elim)
    have hbr := HK.out.at HBB.out id
    have a0 : wr.cell? ⟨bR, 0, none⟩ = some (.int .i64 ru) := cell_of _ _ 0 _ _ hbr
    have a1 : wr.cell? ⟨bR, 1, none⟩ = some (.int .i64 rl) := cell_of _ _ 1 _ _ hbr
    have a2 : wr.cell? ⟨bR, 2, none⟩ = some (.int .i64 rh) := cell_of _ _ 2 _ _ hbr
    have a3 : wr.cell? ⟨bR, 3, none⟩ = some (.int .u8 rk) := cell_of _ _ 3 _ _ hbr
    clear hbr
    by_cases hlt : i < j
    · obtain ⟨B, o, rfl, hBw, hcell⟩ := HIT.out (by omega)
      obtain ⟨h, hh, hhi, hhj⟩ : ∃ h : Nat, ((i : Int) + (j : Int)) / 2 = (h : Int) ∧ i ≤ h ∧ h < j := ⟨(i + j) / 2, by omega, by omega, by omega⟩
      have i1 : (i : Int) < (j : Int) := by omega
      have j6 : (j : Int) ≤ 60000 := by omega
      have h1 : (h : Int) < (N : Int) := by omega
      have h2 : (h : Int).toNat = h := by omega
      have ex : wr.cell? ⟨B, o + h, none⟩ = some (.int .i32 (xv h)) := (hKw.cell ⟨B, o + h, none⟩ (by show B < _; omega) id).trans (hcell h (by omega))
      have hl1 := heap_lt (HK.out.at HBB.out id)
      have hl2 := hKw.size
      have HC : Hid (∀ v : World, Keep (fun _ => False) wr v → Calls Ybaz.prog fn (#[.int .i32 (xv h), .agg #[.int .i64 ru, .int .i64 rl, .int .i64 rh, .int .u8 rk]] ++ caps) v fun e w' => ∃ x : Int, e = .returned (.int .i64 x) ∧ (w'.cell? ⟨B, o + h, none⟩ = some (.int .i32 (xv h)) ∧ w'.cell? ⟨bR, 0, none⟩ = some (.int .i64 ru) ∧ w'.cell? ⟨bR, 1, none⟩ = some (.int .i64 rl) ∧ w'.cell? ⟨bR, 2, none⟩ = some (.int .i64 rh) ∧ w'.cell? ⟨bR, 3, none⟩ = some (.int .u8 rk)) ∧ Hid (Keep (fun _ => False) wr w')) := fun v kv => by
        refine (HB.out v (hKw.trans kv (fun _ q => q.elim)) h (by omega)).mono ?_
        rintro e w' ⟨⟨x, rfl⟩, k'⟩
        have kk := kv.trans k' (fun _ q => q.elim)
        exact ⟨x, rfl, ⟨(kk.cell ⟨B, o + h, none⟩ (by show B < _; omega) id).trans ex, (kk.cell ⟨bR, 0, none⟩ hl1 id).trans a0, (kk.cell ⟨bR, 1, none⟩ hl1 id).trans a1, (kk.cell ⟨bR, 2, none⟩ hl1 id).trans a2, (kk.cell ⟨bR, 3, none⟩ hl1 id).trans a3⟩, kk⟩
      have zw : IntKind.u64.wrap ((i : Int) + (j : Int)) = (i : Int) + (j : Int) := by unfold IntKind.wrap; simp [IntKind.bits, IntKind.signed]; omega
      clear hKw hcell
      go_upto_region 5 with fail
      go_region_held3 (fun w' => w'.cell? ⟨B, o + h, none⟩ = some (.int .i32 (xv h)) ∧ w'.cell? ⟨bR, 0, none⟩ = some (.int .i64 ru) ∧ w'.cell? ⟨bR, 1, none⟩ = some (.int .i64 rl) ∧ w'.cell? ⟨bR, 2, none⟩ = some (.int .i64 rh) ∧ w'.cell? ⟨bR, 3, none⟩ = some (.int .u8 rk)) (first | assumption | go_keep) (first
        | (refine (HC.out _ ?_).mono ?_; (exact ⟨rfl, rfl, rfl, Nat.le_refl _, fun _ _ _ => rfl⟩); rintro e w2 ⟨x, rfl, hS2, HK2⟩))
      have HK3 : Hid (Keep (fun _ => False) w1 w2) := HK.out.trans HK2.out (fun _ q => q.elim)
      clear HK HK2 hS2 a0 a1 a2 a3 ex HC
      by_cases hx : x < 0
      · go_wp2
        go_roundg (j - (h + 1))
        case measure => omega
        case rel => exact ⟨h + 1, j, by omega, hj, by go_num, rfl, rfl, HK3⟩
      · go_wp2
        go_roundg (h - i)
        case measure => omega
        case rel => exact ⟨i, h, by omega, by omega, rfl, rfl, rfl, HK3⟩
    · have e : i = j := by omega
      subst e
      by_cases hiN : i < N
      · obtain ⟨B, o, rfl, hBw, hcell⟩ := HIT.out (by omega)
        have i1 : (i : Int) < (N : Int) := by omega
        have i2 : (i : Int).toNat = i := by omega
        have ex : wr.cell? ⟨B, o + i, none⟩ = some (.int .i32 (xv i)) := (hKw.cell ⟨B, o + i, none⟩ (by show B < _; omega) id).trans (hcell i hiN)
        have hl1 := heap_lt (HK.out.at HBB.out id)
        have hl2 := hKw.size
        have HC : Hid (∀ v : World, Keep (fun _ => False) wr v → Calls Ybaz.prog fn (#[.int .i32 (xv i), .agg #[.int .i64 ru, .int .i64 rl, .int .i64 rh, .int .u8 rk]] ++ caps) v fun e w' => ∃ x : Int, e = .returned (.int .i64 x) ∧ (w'.cell? ⟨B, o + i, none⟩ = some (.int .i32 (xv i)) ∧ w'.cell? ⟨bR, 0, none⟩ = some (.int .i64 ru) ∧ w'.cell? ⟨bR, 1, none⟩ = some (.int .i64 rl) ∧ w'.cell? ⟨bR, 2, none⟩ = some (.int .i64 rh) ∧ w'.cell? ⟨bR, 3, none⟩ = some (.int .u8 rk)) ∧ Hid (Keep (fun _ => False) wr w')) := fun v kv => by
          refine (HB.out v (hKw.trans kv (fun _ q => q.elim)) i (by omega)).mono ?_
          rintro e w' ⟨⟨x, rfl⟩, k'⟩
          have kk := kv.trans k' (fun _ q => q.elim)
          exact ⟨x, rfl, ⟨(kk.cell ⟨B, o + i, none⟩ (by show B < _; omega) id).trans ex, (kk.cell ⟨bR, 0, none⟩ hl1 id).trans a0, (kk.cell ⟨bR, 1, none⟩ hl1 id).trans a1, (kk.cell ⟨bR, 2, none⟩ hl1 id).trans a2, (kk.cell ⟨bR, 3, none⟩ hl1 id).trans a3⟩, kk⟩
        clear hKw hcell hlt hij
        go_upto_region 8 with fail
        go_region_held3 (fun w' => w'.cell? ⟨B, o + i, none⟩ = some (.int .i32 (xv i)) ∧ w'.cell? ⟨bR, 0, none⟩ = some (.int .i64 ru) ∧ w'.cell? ⟨bR, 1, none⟩ = some (.int .i64 rl) ∧ w'.cell? ⟨bR, 2, none⟩ = some (.int .i64 rh) ∧ w'.cell? ⟨bR, 3, none⟩ = some (.int .u8 rk)) (first | assumption | go_keep) (first
          | (refine (HC.out _ ?_).mono ?_; (exact ⟨rfl, rfl, rfl, Nat.le_refl _, fun _ _ _ => rfl⟩); rintro e w2 ⟨x, rfl, hS2, HK2⟩))
        have HK3 : Hid (Keep (fun _ => False) w w2) := (HKB.out.trans HK.out (fun _ q => q.elim)).trans HK2.out (fun _ q => q.elim)
        go_wp2
        go_ret2
        exact ⟨⟨i, _, rfl, by omega⟩, HK3.out⟩
      · have e : N = i := by omega
        subst e
        have HKw : Hid _ := hKw
        clear hKw hlt hij
        go_upto_region 8 with fail
        go_quiet (fail)
        go_wp2
        go_ret2
        exact ⟨⟨N, _, rfl, Nat.le_refl _⟩, HKw.out.drewN _⟩
end Go.Proofs.YbulkdvbsGreat

/-
  link and take of the writers, walked.
-/
import Derived.Test.YbulkdvbsGreatSeg
namespace Go.Proofs.YbulkdvbsGreat
open Go.RowKit

theorem cf {id : Nat} {fn : Func} (h : Ybaz.prog.funcs[id]? = some fn) (h1 : (fn.name == "runtime.NumGoroutine") = false) (h2 : fn.body.isNone = false) (args : Array Value) (W : World) : (callFunc id args).run Ybaz.prog W = .ok (.enter id args) W := by
  have h1' : ¬ fn.name = "runtime.NumGoroutine" := by simpa using h1
  have h2' : ¬ fn.body = none := by intro q; rw [q] at h2; cases h2
  simp [callFunc, h, h1', h2']
theorem cf173 (args : Array Value) (W : World) : (callFunc 173 args).run Ybaz.prog W = .ok (.enter 173 args) W := cf Ybaz.func173 (by kernel_rfl) (by kernel_rfl) args W
theorem cf112 (args : Array Value) (W : World) : (callFunc 112 args).run Ybaz.prog W = .ok (.enter 112 args) W := cf Ybaz.func112 (by kernel_rfl) (by kernel_rfl) args W

set_option maxHeartbeats 4000000 in
set_option maxRecDepth 100000 in
theorem link1_any (TR G : Nat) (down : Bool) (m n NB : Nat) (nd : Nat → Int) (u lo : Nat) (d : Int) (w : World) (E : Nat) (la : Option Addr) (lc : Nat) (aa : Option Addr) (acp : Nat) (ka : Option Addr) (kc : Nat) (ga : Option Addr) (gc : Nat) (last src dst kd : Nat → Int) (bT bU bD : Nat) (h : ST w TR G down m n NB nd) (hg : GB w G n E la lc aa acp ka kc ga gc last src dst kd)
    (hu : u < n) (hlo : lo < m) (hm : m ≤ 3) (hn : n ≤ 5) (hd : 1 ≤ d ∧ d ≤ 63) (hE : E ≤ 100000) (hT : w.heap[bT]? = some (.cells #[.pointer (some ⟨TR, 0, none⟩)] 66)) (hU : w.heap[bU]? = some (.cells #[.int .i64 (u : Int)] 3)) (hD : w.heap[bD]? = some (.cells #[.int .u8 d] 96)) (hDk : ¬ ka = some ⟨bD, 0, none⟩) :
    Calls Ybaz.prog 173 #[.int .i64 ((m : Int) + (lo : Int)), .int .i64 (lo : Int), .int .i64 ((lo : Int) + 1), .pointer (some ⟨bT, 0, none⟩), .pointer (some ⟨bU, 0, none⟩), .pointer (some ⟨bD, 0, none⟩)] w fun e w' => e = .returned (.tuple #[]) ∧ GNext w w' G n E la aa ka ga gc := by
  have cT : w.cell? ⟨bT, 0, none⟩ = some (.pointer (some ⟨TR, 0, none⟩)) := cell_of w bT 0 _ _ hT
  have cU : w.cell? ⟨bU, 0, none⟩ = some (.int .i64 (u : Int)) := cell_of w bU 0 _ _ hU
  have cD : w.cell? ⟨bD, 0, none⟩ = some (.int .u8 d) := cell_of w bD 0 _ _ hD
  have c2 : w.cell? ⟨TR, 2, none⟩ = some (.slice (some ⟨NB, 0, none⟩) (m + m) (m + m)) := cell_of w TR 2 _ _ h.blk
  have e0 := h.row.cell (m + lo) (by omega)
  have hl := h.leaf lo hlo
  have m1 : (m : Int) ≤ 3 := by omega
  have i1 : (lo : Int) < (m : Int) := by omega
  have q2 : ((m : Int) + (lo : Int)).toNat = m + lo := by omega
  have q3 : (0 : Int) ≤ (m : Int) + (lo : Int) := by omega
  have q4 : (m : Int) + (lo : Int) < (m : Int) + (m : Int) := by omega
  have q5 : (nd (m + lo) == -2) = false := by simp; omega
  have q6 : ¬ nd (m + lo) = -2 := by omega
  have q7 : IntKind.i64.wrap ((lo : Int) + 1 - (lo : Int)) = 1 := by rw [IntKind.wrap_i64]; omega
  have HB : Hid (∀ v : World, Keep (fun _ => False) w v → Calls Ybaz.prog 175 #[.pointer (some ⟨TR, 0, none⟩), .int .i64 ((m : Int) + (lo : Int))] v fun e w' => e = .returned (.int .i64 (nd (m + lo))) ∧ w' = v) := fun v kv =>
    build_leaf TR G down m n NB nd lo v (h.keep kv (fun q => q) (fun q => q)) hlo hm
  have HA : Hid (∀ v : World, Keep (fun _ => False) w v → Calls Ybaz.prog 174 #[.pointer (some ⟨TR, 0, none⟩), .int .i64 (u : Int), .int .i64 (nd (m + lo)), .int .u8 d] v fun e w' => e = .returned (.tuple #[]) ∧ (w'.cell? ⟨bT, 0, none⟩ = some (.pointer (some ⟨TR, 0, none⟩)) ∧ w'.cell? ⟨bU, 0, none⟩ = some (.int .i64 (u : Int)) ∧ w'.cell? ⟨bD, 0, none⟩ = some (.int .u8 d)) ∧ Hid (GNext w w' G n E la aa ka ga gc)) := fun v kv => by
    refine (edge_any TR G down m n NB nd u (nd (m + lo)) d v E la lc aa acp ka kc ga gc last src dst kd (h.keep kv (fun q => q) (fun q => q)) (hg.keep kv (fun _ q => q.elim)) hu hl hn hd hE).mono ?_
    rintro e w' ⟨rfl, hx⟩
    have hx2 := hx.pre kv
    have kk := hx2.keep
    refine ⟨rfl, ⟨cell_of w' bT 0 _ _ (kk.at hT (hg.apart hT (by decide) (by decide) (by decide))), cell_of w' bU 0 _ _ (kk.at hU (hg.apart hU (by decide) (by decide) (by decide))), cell_of w' bD 0 _ _ (kk.at hD ?_)⟩, hx2⟩
    rintro (q | q | q | q)
    · subst q; exact ne_of_types hD hg.blk (by decide) rfl
    · obtain ⟨c, hc⟩ := hg.vl.block_ty q; exact ne_of_types hD hc (by decide) rfl
    · obtain ⟨c, hc⟩ := hg.va.block_ty q; exact ne_of_types hD hc (by decide) rfl
    · exact hDk q
  clear h hg
  go_enter Ybaz.func173, Ybaz.ntmps173
  go_upto_region 1 with fail
  go_region_held3 (fun w' => w'.cell? ⟨bT, 0, none⟩ = some (.pointer (some ⟨TR, 0, none⟩)) ∧ w'.cell? ⟨bU, 0, none⟩ = some (.int .i64 (u : Int)) ∧ w'.cell? ⟨bD, 0, none⟩ = some (.int .u8 d)) (first | assumption | go_keep) (first
    | (go_at_call 175; refine (HB.out _ ?_).mono ?_; (exact ⟨rfl, rfl, rfl, Nat.le_refl _, fun _ _ _ => rfl⟩); rintro e w2 ⟨rfl, rfl⟩)
    | (go_at_call 174; refine (HA.out _ ?_).mono ?_; (exact ⟨rfl, rfl, rfl, Nat.le_refl _, fun _ _ _ => rfl⟩); rintro e w2 ⟨rfl, hS2, HN⟩))
  go_wp2
  refine bodyPost_ret (results_none rfl _ _ _) rfl ?_
  exact ⟨rfl, HN.out⟩

set_option maxHeartbeats 4000000 in
set_option maxRecDepth 100000 in
theorem tlink_any (TR G : Nat) (down : Bool) (m n NB : Nat) (nd : Nat → Int) (u lo : Nat) (d : Int) (w : World) (E : Nat) (la : Option Addr) (lc : Nat) (aa : Option Addr) (acp : Nat) (ka : Option Addr) (kc : Nat) (ga : Option Addr) (gc : Nat) (last src dst kd : Nat → Int) (h : ST w TR G down m n NB nd) (hg : GB w G n E la lc aa acp ka kc ga gc last src dst kd)
    (hu : u < n) (hlo : lo < m) (hm : m ≤ 3) (hn : n ≤ 5) (hd : 1 ≤ d ∧ d ≤ 63) (hE : E ≤ 100000) :
    Calls Ybaz.prog 97 #[.pointer (some ⟨TR, 0, none⟩), .int .i64 (u : Int), .int .i64 (lo : Int), .int .i64 ((lo : Int) + 1), .int .u8 d] w fun e w' => e = .returned (.tuple #[]) ∧ GNext w w' G n E la aa ka ga gc := by
  have k3 : Keep (fun _ => False) w (((w.alloc (.cells #[.pointer (some ⟨TR, 0, none⟩)] 66)).alloc (.cells #[.int .i64 (u : Int)] 3)).alloc (.cells #[.int .u8 d] 96)) := ((Keep.alloc _ w _).trans (Keep.alloc (fun _ => False) _ _) (fun _ q => q.elim)).trans (Keep.alloc (fun _ => False) _ _) (fun _ q => q.elim)
  have h3 := h.keep k3 (fun q => q) (fun q => q)
  have g3 := hg.keep k3 (fun _ q => q.elim)
  have hb : (((w.alloc (.cells #[.pointer (some ⟨TR, 0, none⟩)] 66)).alloc (.cells #[.int .i64 (u : Int)] 3)).alloc (.cells #[.int .u8 d] 96)).heap[w.heap.size]? = some (.cells #[.pointer (some ⟨TR, 0, none⟩)] 66) := heap_grow _ (heap_grow _ (heap_alloc_new _ _))
  have hb1 : (((w.alloc (.cells #[.pointer (some ⟨TR, 0, none⟩)] 66)).alloc (.cells #[.int .i64 (u : Int)] 3)).alloc (.cells #[.int .u8 d] 96)).heap[w.heap.size + 1]? = some (.cells #[.int .i64 (u : Int)] 3) := heap_grow _ (by have := heap_alloc_new (w.alloc (.cells #[.pointer (some ⟨TR, 0, none⟩)] 66)) (.cells #[.int .i64 (u : Int)] 3); simpa using this)
  have hb2 : (((w.alloc (.cells #[.pointer (some ⟨TR, 0, none⟩)] 66)).alloc (.cells #[.int .i64 (u : Int)] 3)).alloc (.cells #[.int .u8 d] 96)).heap[w.heap.size + 1 + 1]? = some (.cells #[.int .u8 d] 96) := by have := heap_alloc_new ((w.alloc (.cells #[.pointer (some ⟨TR, 0, none⟩)] 66)).alloc (.cells #[.int .i64 (u : Int)] 3)) (.cells #[.int .u8 d] 96); simpa using this
  have hka : ¬ ka = some ⟨w.heap.size + 1 + 1, 0, none⟩ := fun q => by have := hg.vk.lt q; omega
  have c2 : (((w.alloc (.cells #[.pointer (some ⟨TR, 0, none⟩)] 66)).alloc (.cells #[.int .i64 (u : Int)] 3)).alloc (.cells #[.int .u8 d] 96)).cell? ⟨TR, 2, none⟩ = some (.slice (some ⟨NB, 0, none⟩) (m + m) (m + m)) := cell_of _ TR 2 _ _ h3.blk
  have q1 : ((m : Int) + (m : Int)).tdiv 2 = (m : Int) := by rw [Int.tdiv_eq_ediv_of_nonneg (by omega)]; omega
  have m1 : (m : Int) ≤ 3 := by omega
  have HS := fun _ : Unit => segments_one m lo 173 #[.pointer (some ⟨w.heap.size, 0, none⟩), .pointer (some ⟨w.heap.size + 1, 0, none⟩), .pointer (some ⟨w.heap.size + 1 + 1, 0, none⟩)] _ hlo hm (fun w' => GNext w w' G n E la aa ka ga gc) cf173 (fun _ => (link1_any TR G down m n NB nd u lo d _ E la lc aa acp ka kc ga gc last src dst kd _ _ _ h3 g3 hu hlo hm hn hd hE hb hb1 hb2 hka).mono fun e w' hx => ⟨hx.1, hx.2.pre k3⟩)
  have hmf : ∀ fn first cap w, (Instr.makeFunc fn first cap).run Ybaz.prog w = .ok (.func fn first cap) w := fun _ _ _ _ => rfl
  clear h hg h3 g3 hb hb1 hb2 k3 hka
  go_enter Ybaz.func97, Ybaz.ntmps97
  go_wp2_with (first
    | (go_at_call 104; refine (HS ()).mono ?_; rintro e w2 ⟨rfl, h2⟩))
  go_end0
  exact ⟨rfl, h2⟩

/-- The writers in block WB over the tree in block TR: nobody reads a range. -/
structure WS (w : World) (WB TR n RB : Nat) : Prop where
  blk : ∃ hd, w.heap[WB]? = some (.cells #[.pointer (some ⟨TR, 0, none⟩), .slice (some ⟨RB, 0, none⟩) n n, hd] 205)
  row : Row w RB n (fun _ => .bool false)
  lt : RB < w.heap.size
theorem WS.keep {w w' : World} {WB TR n RB : Nat} (h : WS w WB TR n RB) {F : Nat → Prop} (k : Keep F w w') (h1 : ¬ F WB) (h2 : ¬ F RB) : WS w' WB TR n RB := by
  obtain ⟨hd, hb⟩ := h.blk
  exact ⟨⟨hd, k.at hb h1⟩, h.row.keep (k.block RB h.lt h2), Nat.lt_of_lt_of_le h.lt k.size⟩

set_option maxHeartbeats 4000000 in
set_option maxRecDepth 100000 in
theorem link2_any (WB RB TR G : Nat) (down : Bool) (m n NB : Nat) (nd : Nat → Int) (u lo : Nat) (d : Int) (w : World) (E : Nat) (la : Option Addr) (lc : Nat) (aa : Option Addr) (acp : Nat) (ka : Option Addr) (kc : Nat) (ga : Option Addr) (gc : Nat) (last src dst kd : Nat → Int) (bW bU bD : Nat) (hw : WS w WB TR n RB) (h : ST w TR G down m n NB nd) (hg : GB w G n E la lc aa acp ka kc ga gc last src dst kd)
    (hu : u < n) (hlo : lo < m) (hm : m ≤ 3) (hn : n ≤ 5) (hd : 1 ≤ d ∧ d ≤ 63) (hE : E ≤ 100000) (hW : w.heap[bW]? = some (.cells #[.pointer (some ⟨WB, 0, none⟩)] 133)) (hU : w.heap[bU]? = some (.cells #[.int .i64 (u : Int)] 3)) (hD : w.heap[bD]? = some (.cells #[.int .u8 d] 96)) (hDk : ¬ ka = some ⟨bD, 0, none⟩) :
    Calls Ybaz.prog 112 #[.int .i64 (lo : Int), .int .i64 ((lo : Int) + 1), .pointer (some ⟨bW, 0, none⟩), .pointer (some ⟨bU, 0, none⟩), .pointer (some ⟨bD, 0, none⟩)] w fun e w' => e = .returned (.tuple #[]) ∧ GNext w w' G n E la aa ka ga gc := by
  obtain ⟨hdv, hb⟩ := hw.blk
  have cW : w.cell? ⟨bW, 0, none⟩ = some (.pointer (some ⟨WB, 0, none⟩)) := cell_of w bW 0 _ _ hW
  have cU : w.cell? ⟨bU, 0, none⟩ = some (.int .i64 (u : Int)) := cell_of w bU 0 _ _ hU
  have cD : w.cell? ⟨bD, 0, none⟩ = some (.int .u8 d) := cell_of w bD 0 _ _ hD
  have c0 : w.cell? ⟨WB, 0, none⟩ = some (.pointer (some ⟨TR, 0, none⟩)) := cell_of w WB 0 _ _ hb
  have HA : Hid (∀ v : World, Keep (fun _ => False) w v → Calls Ybaz.prog 97 #[.pointer (some ⟨TR, 0, none⟩), .int .i64 (u : Int), .int .i64 (lo : Int), .int .i64 ((lo : Int) + 1), .int .u8 d] v fun e w' => e = .returned (.tuple #[]) ∧ (w'.cell? ⟨bW, 0, none⟩ = some (.pointer (some ⟨WB, 0, none⟩)) ∧ w'.cell? ⟨WB, 0, none⟩ = some (.pointer (some ⟨TR, 0, none⟩)) ∧ w'.cell? ⟨bU, 0, none⟩ = some (.int .i64 (u : Int)) ∧ w'.cell? ⟨bD, 0, none⟩ = some (.int .u8 d)) ∧ Hid (GNext w w' G n E la aa ka ga gc)) := fun v kv => by
    refine (tlink_any TR G down m n NB nd u lo d v E la lc aa acp ka kc ga gc last src dst kd (h.keep kv (fun q => q) (fun q => q)) (hg.keep kv (fun _ q => q.elim)) hu hlo hm hn hd hE).mono ?_
    rintro e w' ⟨rfl, hx⟩
    have hx2 := hx.pre kv
    have kk := hx2.keep
    refine ⟨rfl, ⟨cell_of w' bW 0 _ _ (kk.at hW (hg.apart hW (by decide) (by decide) (by decide))), cell_of w' WB 0 _ _ (kk.at hb (hg.apart hb (by decide) (by decide) (by decide))), cell_of w' bU 0 _ _ (kk.at hU (hg.apart hU (by decide) (by decide) (by decide))), cell_of w' bD 0 _ _ (kk.at hD ?_)⟩, hx2⟩
    rintro (q | q | q | q)
    · subst q; exact ne_of_types hD hg.blk (by decide) rfl
    · obtain ⟨c, hc⟩ := hg.vl.block_ty q; exact ne_of_types hD hc (by decide) rfl
    · obtain ⟨c, hc⟩ := hg.va.block_ty q; exact ne_of_types hD hc (by decide) rfl
    · exact hDk q
  clear h hg hw
  go_enter Ybaz.func112, Ybaz.ntmps112
  go_region_held3 (fun w' => w'.cell? ⟨bW, 0, none⟩ = some (.pointer (some ⟨WB, 0, none⟩)) ∧ w'.cell? ⟨WB, 0, none⟩ = some (.pointer (some ⟨TR, 0, none⟩)) ∧ w'.cell? ⟨bU, 0, none⟩ = some (.int .i64 (u : Int)) ∧ w'.cell? ⟨bD, 0, none⟩ = some (.int .u8 d)) (first | assumption | go_keep) (first
    | (go_at_call 97; refine (HA.out _ ?_).mono ?_; (exact ⟨rfl, rfl, rfl, Nat.le_refl _, fun _ _ _ => rfl⟩); rintro e w2 ⟨rfl, hS2, HN⟩))
  go_end0
  exact ⟨rfl, HN.out⟩

set_option maxHeartbeats 4000000 in
set_option maxRecDepth 100000 in
theorem wlink_any (WB RB TR G : Nat) (down : Bool) (m n NB : Nat) (nd : Nat → Int) (u lo : Nat) (d : Int) (w : World) (E : Nat) (la : Option Addr) (lc : Nat) (aa : Option Addr) (acp : Nat) (ka : Option Addr) (kc : Nat) (ga : Option Addr) (gc : Nat) (last src dst kd : Nat → Int) (hw : WS w WB TR n RB) (h : ST w TR G down m n NB nd) (hg : GB w G n E la lc aa acp ka kc ga gc last src dst kd)
    (hu : u < n) (hlo : lo < m) (hm : m ≤ 3) (hn : n ≤ 5) (hd : 1 ≤ d ∧ d ≤ 63) (hE : E ≤ 100000) :
    Calls Ybaz.prog 51 #[.pointer (some ⟨WB, 0, none⟩), .int .i64 (u : Int), .int .i64 (lo : Int), .int .i64 ((lo : Int) + 1), .int .u8 d] w fun e w' => e = .returned (.tuple #[]) ∧ GNext w w' G n E la aa ka ga gc := by
  obtain ⟨W3, hW3⟩ : ∃ W3, W3 = (((w.alloc (.cells #[.pointer (some ⟨WB, 0, none⟩)] 133)).alloc (.cells #[.int .i64 (u : Int)] 3)).alloc (.cells #[.int .u8 d] 96)) := ⟨_, rfl⟩
  have k3 : Keep (fun _ => False) w W3 := by rw [hW3]; exact ((Keep.alloc _ w _).trans (Keep.alloc (fun _ => False) _ _) (fun _ q => q.elim)).trans (Keep.alloc (fun _ => False) _ _) (fun _ q => q.elim)
  have hb : W3.heap[w.heap.size]? = some (.cells #[.pointer (some ⟨WB, 0, none⟩)] 133) := by rw [hW3]; exact heap_grow _ (heap_grow _ (heap_alloc_new _ _))
  have hb1 : W3.heap[w.heap.size + 1]? = some (.cells #[.int .i64 (u : Int)] 3) := by rw [hW3]; exact heap_grow _ (by have := heap_alloc_new (w.alloc (.cells #[.pointer (some ⟨WB, 0, none⟩)] 133)) (.cells #[.int .i64 (u : Int)] 3); simpa using this)
  have hb2 : W3.heap[w.heap.size + 1 + 1]? = some (.cells #[.int .u8 d] 96) := by rw [hW3]; have := heap_alloc_new ((w.alloc (.cells #[.pointer (some ⟨WB, 0, none⟩)] 133)).alloc (.cells #[.int .i64 (u : Int)] 3)) (.cells #[.int .u8 d] 96); simpa using this
  have hka : ¬ ka = some ⟨w.heap.size + 1 + 1, 0, none⟩ := fun q => by have := hg.vk.lt q; omega
  have kq : ∀ q, Keep (fun _ => False) w (W3.drewN q) := fun q => k3.drewN q
  have hw3 := fun q => hw.keep (kq q) (fun q => q) (fun q => q)
  have h3 := fun q => h.keep (kq q) (fun q => q) (fun q => q)
  have g3 := fun q => hg.keep (kq q) (fun _ q => q.elim)
  obtain ⟨hdv, hwb⟩ := (hw.keep k3 (fun q => q) (fun q => q)).blk
  have c0 : W3.cell? ⟨WB, 0, none⟩ = some (.pointer (some ⟨TR, 0, none⟩)) := cell_of _ WB 0 _ _ hwb
  have cW : W3.cell? ⟨w.heap.size, 0, none⟩ = some (.pointer (some ⟨WB, 0, none⟩)) := cell_of _ _ 0 _ _ hb
  have cU : W3.cell? ⟨w.heap.size + 1, 0, none⟩ = some (.int .i64 (u : Int)) := cell_of _ _ 0 _ _ hb1
  have HSl : ∀ (_ : Unit) (q : Nat), Calls Ybaz.prog 109 #[.pointer (some ⟨TR, 0, none⟩), .int .i64 (lo : Int)] (W3.drewN q) fun e w' => e = .returned (.int .i64 (nd (m + lo))) ∧ ∃ r, w' = (W3.drewN q).drewN r := fun _ q => slot_any TR G down m n NB nd lo _ (h3 q) hlo hm
  have HSp : ∀ (_ : Unit) (q : Nat), Calls Ybaz.prog 94 #[.int .i64 (lo : Int), .int .i64 ((lo : Int) + 1), .slice none 0 0, .func (.func 112) #[] #[.pointer (some ⟨w.heap.size, 0, none⟩), .pointer (some ⟨w.heap.size + 1, 0, none⟩), .pointer (some ⟨w.heap.size + 1 + 1, 0, none⟩)]] (W3.drewN q) fun e w' => e = .returned (.tuple #[]) ∧ GNext w w' G n E la aa ka ga gc := fun _ q =>
    split_one (lo : Int) ((lo : Int) + 1) 112 #[.pointer (some ⟨w.heap.size, 0, none⟩), .pointer (some ⟨w.heap.size + 1, 0, none⟩), .pointer (some ⟨w.heap.size + 1 + 1, 0, none⟩)] _ (by omega) (fun w' => GNext w w' G n E la aa ka ga gc) cf112
      (fun _ => (link2_any WB RB TR G down m n NB nd u lo d _ E la lc aa acp ka kc ga gc last src dst kd _ _ _ (hw3 q) (h3 q) (g3 q) hu hlo hm hn hd hE hb hb1 hb2 hka).mono fun e w' hx => ⟨hx.1, hx.2.pre (kq q)⟩)
  have hN : ∀ q, Hid (GNext w (W3.drewN q) G n E la aa ka ga gc) := fun q => (g3 q).next.pre (kq q)
  have hmf : ∀ fn first cap w, (Instr.makeFunc fn first cap).run Ybaz.prog w = .ok (.func fn first cap) w := fun _ _ _ _ => rfl
  have l1 : IntKind.i64.wrap ((lo : Int) + 1 - (lo : Int)) = 1 := by rw [IntKind.wrap_i64]; omega
  have m1 : (lo : Int) ≤ 3 := by omega
  clear h hg hw hw3 h3 g3 hb hb1 hb2 k3 hka kq hwb
  go_enter Ybaz.func51, Ybaz.ntmps51
  go_upto_region 2 with fail
  rw [← hW3]
  clear hW3
  go_quiet (first
    | (go_at_call 109; exact Calls.quiet_of (HSl () _)))
  by_cases hq : nd (m + lo) = (u : Int)
  · rw [hq]
    go_wp2
    refine bodyPost_ret (results_none rfl _ _ _) rfl ?_
    exact ⟨rfl, (hN _).out⟩
  · have hq2 : (nd (m + lo) == (u : Int)) = false := by simpa using hq
    go_wp2_with (first
      | (go_at_call 94; refine (HSp () _).mono ?_; rintro e w2 ⟨rfl, h2⟩))
    go_end0
    exact ⟨rfl, h2⟩

set_option maxHeartbeats 4000000 in
set_option maxRecDepth 100000 in
theorem take_any (WB RB TR G : Nat) (down : Bool) (m n NB : Nat) (nd : Nat → Int) (u lo : Nat) (w : World) (hw : WS w WB TR n RB) (h : ST w TR G down m n NB nd) (hu : u < n) (hlo : lo < m) (hm : m ≤ 3) :
    Calls Ybaz.prog 52 #[.pointer (some ⟨WB, 0, none⟩), .int .i64 (u : Int), .int .i64 (lo : Int)] w fun e w' => e = .returned (.tuple #[]) ∧ (∃ nd', ST w' TR G down m n NB nd') ∧ Keep (fun b => b = NB) w w' := by
  have kq : ∀ q, Keep (fun _ => False) w (w.drewN q) := fun q => (Keep.refl _ w).drewN q
  have h3 := fun q => h.keep (kq q) (fun q => q) (fun q => q)
  obtain ⟨hdv, hwb⟩ := hw.blk
  have c0 : w.cell? ⟨WB, 0, none⟩ = some (.pointer (some ⟨TR, 0, none⟩)) := cell_of _ WB 0 _ _ hwb
  have c1 : w.cell? ⟨WB, 1, none⟩ = some (.slice (some ⟨RB, 0, none⟩) n n) := cell_of _ WB 1 _ _ hwb
  have cu := hw.row.cell u hu
  have u1 : (u : Int) < (n : Int) := by omega
  have u2 : (u : Int).toNat = u := by omega
  have HSl := fun _ : Unit => slot_any TR G down m n NB nd lo w h hlo hm
  have HSt : ∀ (_ : Unit) (q : Nat), _ := fun _ q => set_any TR G down m n NB nd lo u (w.drewN q) (h3 q) hlo hm hu
  have hN : Hid (ST w TR G down m n NB nd) := h
  clear h h3 hw hwb
  by_cases hq : nd (m + lo) = (u : Int)
  · rw [hq] at HSl
    go_enter Ybaz.func52, Ybaz.ntmps52
    go_wp2_with (first
      | (go_at_call 109; refine (HSl ()).mono ?_; rintro e w2 ⟨rfl, q, rfl⟩))
    refine bodyPost_ret (results_none rfl _ _ _) rfl ?_
    exact ⟨rfl, ⟨nd, hN.out.keep (kq q) (fun q => q) (fun q => q)⟩, (kq q).wide (fun _ q => q.elim)⟩
  · have hq2 : (nd (m + lo) == (u : Int)) = false := by simpa using hq
    go_enter Ybaz.func52, Ybaz.ntmps52
    go_wp2_with (first
      | (go_at_call 109; refine (HSl ()).mono ?_; rintro e w2 ⟨rfl, q, rfl⟩)
      | (go_at_call 113; refine (HSt () q).mono ?_; rintro e w2 ⟨rfl, h2, k2⟩))
    go_end0
    exact ⟨rfl, h2, ((kq q).wide (fun _ q => q.elim)).trans k2 (fun _ q => .inl q)⟩
end Go.Proofs.YbulkdvbsGreat

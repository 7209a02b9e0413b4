/-
  slices.Sorted(maps.Keys(m)) over a map from int32 to int, walked: at most as many numbers as entries.
-/
import Derived.Test.YbulkdvbsGreatBack
import Derived.Test.YbulkdvbsGreatSortI
namespace Go.Proofs.YbulkdvbsGreat
open Go.RowKit Go.Shelf

theorem keyed21 : Maps.Keyed Ybaz.prog 21 := Maps.int_keyed Ybaz.underlying21
theorem MP.range2 {w : World} {k t e : TypeId} {b n : Nat} {m : Lit → Option Value} (h : MP w k b n m) (K : Maps.Keyed Ybaz.prog k) (ht : Ybaz.prog.underlying t = some (.map k e)) :
    ∃ w' L, (Instr.range t (.map (some b))).run Ybaz.prog w = .ok (.pointer (some ⟨w.heap.size, 0, none⟩)) w' ∧ MR w' k b w.heap.size n m (fun l => (m l).isSome) L.length ∧ Keep (fun _ => False) w w' ∧ w'.heap.size = w.heap.size + 1 ∧ KeysOf m L ∧ w.grownBy w' none := by
  obtain ⟨D, h, v⟩ := h
  obtain ⟨w', hrun, hr, hg, hs⟩ := h.range K ht
  obtain ⟨L, hL, hl⟩ := view_keys h K v
  have e1 : Maps.has D = fun l => (m l).isSome := funext v.has
  rw [e1, ← hl] at hr
  exact ⟨w', L, hrun, ⟨D, hr, v⟩, ⟨hg.os, hg.tape, hg.output, hg.size, fun i hi _ => hg.block i hi (by simp)⟩, hs, hL, hg⟩
/-- A number of 32 bits. -/
abbrev I32 := { x : Int // (Lit.int .i32 x).wf = true }
theorem key32 {key : Value} {kl : Lit} (h : keyOf Ybaz.prog 21 key = some kl) : ∃ x : I32, key = .int .i32 x.1 ∧ kl = .int .i32 x.1 := by
  have e : keyOf Ybaz.prog 21 key = mapKey Ybaz.prog 21 key := by simp [keyOf, Ybaz.underlying21]
  rw [e] at h
  cases key <;> simp [mapKey, Ybaz.underlying21] at h
  obtain ⟨⟨rfl, hw⟩, rfl⟩ := h
  exact ⟨⟨_, hw⟩, rfl, rfl⟩
theorem MR.of_walks {w w' : World} {k : TypeId} {b r n cnt : Nat} {m : Lit → Option Value} {left : Lit → Bool} (h : MR w k b r n m left cnt) (hk : KeepsWalks w w') : MR w' k b r n m left cnt := by
  obtain ⟨D, h, v⟩ := h
  exact ⟨D, h.of_walks hk, v⟩
theorem MR.next2 {w : World} {k : TypeId} {b r n cnt : Nat} {m : Lit → Option Value} {left : Lit → Bool} (h : MR w k b r n m left cnt) (K : Maps.Keyed Ybaz.prog k) (ty : TypeId) :
    (cnt = 0 ∧ (Instr.next (.pointer (some ⟨r, 0, none⟩)) false ty).run Ybaz.prog w = .ok (.tuple #[.bool false]) w) ∨
    ∃ key v kl w' cnt' left', keyOf Ybaz.prog k key = some kl ∧ (Instr.next (.pointer (some ⟨r, 0, none⟩)) false ty).run Ybaz.prog w = .ok (.tuple #[.bool true, key, v]) w' ∧
      MR w' k b r n m left' cnt' ∧ cnt' < cnt ∧ w.grownBy w' (some r) ∧ (Instr.entry (.pointer (some ⟨r, 0, none⟩))).run Ybaz.prog w' = .ok (.tuple #[key, v]) w' := by
  obtain ⟨D, h, v⟩ := h
  rcases h.next K ty with ⟨h0, h1, h2⟩ | ⟨key, x, kl, y, w', cnt', hkey, hl, hx, hat, hrun, hr', hc, hg, hs, he⟩
  · exact .inl ⟨h0, h2⟩
  · exact .inr ⟨key, x, kl, w', cnt', _, hkey, hrun, ⟨D, hr', v⟩, hc, hg, he⟩
theorem MR.iter_walk {w : World} {k : TypeId} {b r n cnt : Nat} {m : Lit → Option Value} {left : Lit → Bool} (h : MR w k b r n m left cnt) : ∃ o : Obj, w.heap[r]? = some o ∧ o.isWalk = true := by
  obtain ⟨D, h, v⟩ := h
  exact h.iter_walk
attribute [local go_sem] Oper.semAt_some
set_option maxRecDepth 100000 in
set_option maxHeartbeats 2000000 in
theorem keys117_in (n : Nat) (hn : 1 ≤ n) (l bK mb mn : Nat) (m : Lit → Option Value) (N : Nat) (hN : ∀ L, KeysOf m L → L.length ≤ N) (J Jx : List I32 → World → Prop) (W : World) (hJ : AbidesFrom W.heap.size J)
    (hY : ∀ pre (x : I32) W, J pre W → pre.length < N → YieldAt Fence.wide (n - 1) Ybaz.prog l #[.int .i32 x.1] W fun e W' =>
      (e = .returned (.bool true) ∧ J (pre ++ [x]) W' ∧ KeepsWalks W W') ∨ (e = .returned (.bool false) ∧ Jx (pre ++ [x]) W'))
    (hbK : W.cell? ⟨bK, 0, none⟩ = some (.map (some mb))) (hm : MP W 21 mb mn m) (h0 : J [] W) :
    CallsIn Fence.wide n Ybaz.prog 117 #[.func (.yield l) #[] #[], .pointer (some ⟨bK, 0, none⟩)] W fun e W' => (∃ v, e = .returned v) ∧
      ((∃ ys, True ∧ J ys W') ∨ (∃ pre, True ∧ Jx pre W')) := by
  obtain ⟨W1, L, hrun, hmr, hk1, hs1, hL, hg1⟩ := hm.range2 (t := 139) (e := 3) keyed21 Ybaz.underlying139
  have hLN := hN L hL
  have hJ1 := hJ [] W W1 none h0 hg1 (fun _ e => by cases e)
  generalize hr0 : W.heap.size = r at *
  refine callsIn_of_wp Ybaz.func117 rfl trivial ?_ rfl
  simp only [Ybaz.ntmps117, List.size_toArray, List.length_cons, List.length_nil, Nat.reduceAdd, Nat.reduceSub, Array.replicate_succ, Array.replicate_zero, List.push_toArray, List.append_toArray, List.nil_append, List.cons_append]
  gi_wp2
  gi_loopw [3] (fun _ wr => ∃ (pre : List I32) (left : Lit → Bool) (cnt : Nat), pre.length + cnt ≤ N ∧ J pre wr ∧ MR wr 21 mb r mn m left cnt)
    (fun _ wr => wr.rangeLeft mb r)
  case atStart => exact ⟨[], _, L.length, by simpa using hLN, hJ1, hmr⟩
  case round =>
    clear hmr hJ1 h0 hm hrun
    obtain ⟨pre, left, cnt, hp, hJs, hr⟩ := hrel
    have hleft : wr.rangeLeft mb r = cnt := by obtain ⟨D, h, v⟩ := hr; exact h.left_eq
    rcases hr.next2 keyed21 0 with ⟨hc0, hnx⟩ | ⟨key, v, kl, w2, cnt', left', hkey, hnx, hr2, hc, hg, hen⟩
    · clear hleft
      gi_wp2
      go_end0
      exact ⟨⟨_, rfl⟩, .inl ⟨_, trivial, hJs⟩⟩
    · obtain ⟨x, rfl, rfl⟩ := key32 hkey
      have hJ2 := hJ pre wr w2 (some r) hJs hg (fun r' e => by cases e; exact ⟨by omega, hr.iter_walk⟩)
      obtain ⟨fn, tmps, assign, body, hy, hR⟩ := hY pre x w2 hJ2 (by omega)
      clear hr hg hkey
      gi_wp2
      refine hR.mono ?_
      rintro e W3 (⟨rfl, hJ3, hk3⟩ | ⟨rfl, hJx3⟩)
      · have hr3 := hr2.of_walks hk3
        have hl3 : W3.rangeLeft mb r = cnt' := by obtain ⟨D, h, v⟩ := hr3; exact h.left_eq
        gi_wp2
        go_roundw
        case rel => exact ⟨_, _, cnt', by simp; omega, hJ3, hr3⟩
        case measure => rw [hl3, hleft]; exact hc
      · gi_wp2
        refine bodyPost_ret (results_none rfl _ _ _) rfl ?_
        exact ⟨⟨_, rfl⟩, .inr ⟨_, trivial, hJx3⟩⟩
theorem keys117_stops (bK mb mn : Nat) (m : Lit → Option Value) (N : Nat) (hN : ∀ L, KeysOf m L → L.length ≤ N) (w : World) (hb : bK < w.heap.size) (hbK : w.cell? ⟨bK, 0, none⟩ = some (.map (some mb))) (hm : MP w 21 mb mn m) :
    SeqStopsK Fence.wide 4 Ybaz.prog 117 #[.pointer (some ⟨bK, 0, none⟩)] (fun x : I32 => #[.int .i32 x.1]) KeepsWalks (fun _ => True) (fun _ => True) N w := fun l J Jx W hW hJ _ hY h0 =>
  keys117_in 4 (by decide) l bK mb mn m N hN J Jx W hJ hY ((hW.cell (p := ⟨bK, 0, none⟩) hb).trans hbK) (hm.keepb (hW.block mb hm.lt)) h0
set_option maxHeartbeats 1000000 in
set_option maxRecDepth 100000 in
theorem keys56 (mb : Option Nat) (w : World) :
    Calls Ybaz.prog 56 #[.map mb] w fun e w' => e = .returned (.func (.func 117) #[] #[.pointer (some ⟨w.heap.size, 0, none⟩)]) ∧ w' = w.alloc (.cells #[.map mb] 139) := by
  have hmf : ∀ fn first cap w, (Instr.makeFunc fn first cap).run Ybaz.prog w = .ok (.func fn first cap) w := fun _ _ _ _ => rfl
  go_enter Ybaz.func56, Ybaz.ntmps56
  go_wp2
  go_ret
  exact ⟨rfl, rfl⟩
/-- A slice of int32 in a box. -/
structure AQ (w : World) (bA L : Nat) (a : Option Addr) (c : Nat) (x : Nat → Int) (W : World) : Prop where
  box : W.heap[bA]? = some (.cells #[.slice a L c] 95)
  vec : Vec W 21 1 a L c (fun i _ => .int .i32 (x i))
  wf : ∀ i, i < L → (Lit.int .i32 (x i)).wf = true
  keep : Keep (fun _ => False) w W
  new : w.heap.size ≤ bA ∧ ∀ b, a = some ⟨b, 0, none⟩ → w.heap.size ≤ b
theorem not_cells2 {o : Obj} (h : o.isCells = false) (c : Array Value) (t : TypeId) : o ≠ .cells c t := fun e => by subst e; simp [Obj.isCells] at h
theorem AQ.own {β : Type} (w : World) (bA N : Nat) (len : β → Nat) (B : Nat) (hB : w.heap.size ≤ B) : OwnFrom B (fun (s : β) W => ∃ a c x, AQ w bA (len s) a c x W ∧ len s ≤ N) := by
  rintro s W W' row ⟨a, c, x, h, hN⟩ hg hr
  have k : Keep (fun b => row = some b) W W' := ⟨hg.os, hg.tape, hg.output, hg.size, fun i hi hn => hg.block i hi (fun e => hn e.symm)⟩
  have hF : ∀ b, row = some b → B ≤ b ∧ ∀ c t, W.heap[b]? ≠ some (.cells c t) := fun b e => by
    obtain ⟨h1, o, h2, h3⟩ := hr b e
    exact ⟨h1, fun c t q => by rw [h2] at q; exact not_cells2 h3 c t (Option.some.inj q)⟩
  refine ⟨a, c, x, ⟨k.at h.box (fun e => (hF _ e).2 _ _ h.box), h.vec.keep k (fun g hg e => ?_), h.wf, h.keep.trans k (fun b e => .inr (by have := (hF b e).1; omega)), h.new⟩, hN⟩
  obtain ⟨cur, hb⟩ := h.vec.block_ty hg
  exact (hF g e).2 _ _ hb
attribute [local go_sem ↓ 2000] exec_app
/-- What the numbers come to. -/
def RetI32 (w w' : World) (N : Nat) (e : Ending) : Prop := ∃ (a : Option Addr) (L c : Nat) (x : Nat → Int), e = .returned (.slice a L c) ∧ Vec w' 21 1 a L c (fun i _ => .int .i32 (x i)) ∧ (∀ i, i < L → (Lit.int .i32 (x i)).wf = true) ∧ L ≤ N ∧ ∀ b, a = some ⟨b, 0, none⟩ → w.heap.size ≤ b
set_option maxHeartbeats 4000000 in
set_option maxRecDepth 100000 in
theorem appendSeq_any (bK mb mn : Nat) (m : Lit → Option Value) (N : Nat) (hN5 : N ≤ 12) (hN : ∀ L, KeysOf m L → L.length ≤ N) (w : World) (hbK : w.heap[bK]? = some (.cells #[.map (some mb)] 139)) (hm : MP w 21 mb mn m) :
    Calls Ybaz.prog 186 #[.slice none 0 0, .func (.func 117) #[] #[.pointer (some ⟨bK, 0, none⟩)]] w fun e w' => RetI32 w w' N e ∧ Keep (fun _ => False) w w' := by
  have ka := Keep.alloc (fun _ => False) w (.cells #[.slice none 0 0] 95)
  have HA0 : Hid (AQ w w.heap.size 0 none 0 (fun _ => 0) (w.alloc (.cells #[.slice none 0 0] 95))) := ⟨heap_alloc_new _ _, Vec.nil _ _ _ _, fun i hi => by omega, ka, Nat.le_refl _, fun b q => by simp at q⟩
  have hseq := keys117_stops bK mb mn m N hN (w.alloc (.cells #[.slice none 0 0] 95)) (heap_lt (ka.at hbK id)) (cell_of _ _ 0 _ _ (ka.at hbK id)) (hm.keep ka id)
  have hsz : (w.alloc (.cells #[.slice none 0 0] 95)).heap.size = w.heap.size + 1 := World.size_alloc _ _
  refine (callsIn_wide (n := 5)).1 ?_
  refine callsIn_of_wp_marks Ybaz.func186 rfl trivial ?_ rfl
  refine wpIn_wide.2 ?_
  simp only [Ybaz.ntmps186, List.size_toArray, List.length_cons, List.length_nil, Nat.reduceAdd, Nat.reduceSub, Array.replicate_succ, Array.replicate_zero, List.push_toArray, List.append_toArray, List.nil_append, List.cons_append]
  go_wp2
  refine wp_range_plain 117 #[.pointer (some ⟨bK, 0, none⟩)] rfl (cf Ybaz.func117 (by kernel_rfl) (by kernel_rfl)) hseq (fun h k => h.trans k) walksK_b (fun _ => rfl) (fun (pre : List I32) W => ∃ a c x, AQ w w.heap.size pre.length a c x W ∧ pre.length ≤ N) (AQ.own w w.heap.size N (fun (pre : List I32) => pre.length) _ (by omega)) ⟨none, 0, _, HA0.out, Nat.zero_le _⟩
    (fun x => #[.slice none 0 0, .func (.func 117) #[] #[.pointer (some ⟨bK, 0, none⟩)], .pointer (some ⟨w.heap.size, 0, none⟩), undef, .slice none 0 0, .int .i32 x.1, .func (.func 117) #[] #[.pointer (some ⟨bK, 0, none⟩)], .int .i32 x.1, undef, undef, undef, undef, undef]) ?assign ?body ?done
  case assign =>
    intro l x W K hK
    simp [laidT]
    gi_wp2
    exact hK
  case body =>
    rintro l pre x W ⟨a, c, y, h, hN⟩ hlt
    have HH : Hid _ := h
    have c0 : W.cell? ⟨w.heap.size, 0, none⟩ = some (.slice a pre.length c) := cell_of _ _ 0 _ _ h.box
    obtain ⟨g4, cap4, w4, hr4, hv4, hk4, hg4, hl4⟩ := run_push (W.alloc (.cells #[.int .i32 x.1] 21)) 95 21 95 1 4 _ Ybaz.underlying95 inf21 rfl Nat.one_pos (by decide) a pre.length c _ (h.vec.alloc _) ⟨W.heap.size, 0, none⟩ 1 (fun _ => .int .i32 x.1) (new1 W _ 21) (fun _ _ => rfl) (by omega)
    have hna : ¬ a = some ⟨w.heap.size, 0, none⟩ := h.vec.off h.box (by decide)
    have b4 := hk4.at (heap_grow (.cells #[.int .i32 x.1] 21) h.box) hna
    have c4 : w4.cell? ⟨w.heap.size, 0, none⟩ = some (.slice a pre.length c) := cell_of _ _ 0 _ _ b4
    have z4 := free_of _ _ 0 _ _ b4
    obtain ⟨t1, t2, t3, _, t5⟩ := field_push (i := 0) h.box hv4 hk4 hg4 hna
    have HT : Hid _ := And.intro t1 (And.intro t2 (And.intro t3 t5))
    clear h t1 t2 t3 t5 b4 hv4 hk4 hg4 hl4 hna
    gi_wp2
    obtain ⟨t1, t2, t3, t5⟩ := HT.out
    have hnc : ∀ (b : Nat) (o : Obj), W.heap[b]? = some o → o.isCells = false → ¬ (b = w.heap.size ∨ a = some ⟨b, 0, none⟩) := by
      rintro b o hb ho (q | q)
      · rw [q, HH.out.box] at hb
        exact not_cells2 ho _ _ (Option.some.inj hb).symm
      · obtain ⟨cur, hc⟩ := HH.out.vec.block_ty q
        rw [hc] at hb
        exact not_cells2 ho _ _ (Option.some.inj hb).symm
    refine ⟨⟨t3.size, fun b o _ hb ho => t3.at hb (hnc b o hb ho)⟩, ⟨t3.size, fun b o hb ho => t3.at hb (hnc b o hb (Obj.not_cells_of_walk ho))⟩, some ⟨g4, 0, none⟩, cap4, fun i => if i = pre.length then x.1 else y i, ?_, by simp; omega⟩
    rw [List.length_append, List.length_singleton]
    refine ⟨by simpa using t1, t2.congr (by omega) (fun i c _ _ => ?_), fun i hi => ?_, HH.out.keep.trans t3 (fun b q => .inr ?_), HH.out.new.1, fun b q => ?_⟩
    · by_cases e : i = pre.length
      · simp [push, e]
      · simp [push, e]
    · by_cases e : i = pre.length
      · simp only [e, if_true]; exact x.2
      · simp only [e, if_false]; exact HH.out.wf i (by omega)
    · rcases q with q | q
      · omega
      · exact HH.out.new.2 b q
    · simp only [Option.some.injEq, Addr.mk.injEq, and_true] at q
      subst q
      rcases t5 with q | q
      · exact HH.out.new.2 _ q
      · exact Nat.le_trans HH.out.keep.size q
  case done =>
    rintro D xs W hD hI hK
    obtain ⟨a, c, x, h, hL⟩ := (AQ.own w w.heap.size N (fun (pre : List I32) => pre.length) _ (by omega)).putObj (.deferred none) hI hD hK rfl
    obtain ⟨a', c', x', h', hL'⟩ := hI
    have c0 : W.cell? ⟨w.heap.size, 0, none⟩ = some (.slice a' xs.length c') := cell_of _ _ 0 _ _ h'.box
    have e1 : (.slice a xs.length c : Value) = .slice a' xs.length c' := by
      have e3 : (W.putObj D (.deferred none)).heap[w.heap.size]? = W.heap[w.heap.size]? := World.putObj_heap_other (by omega)
      have e2 := e3.symm.trans h.box
      rw [h'.box] at e2
      simp at e2
      rw [e2.1, e2.2]
    have HH : Hid _ := h
    rw [← e1] at c0
    clear h h' e1
    go_wp2
    refine ⟨by simp, .inl ⟨_, _, rfl, run_takeDeferred hK, ?_⟩⟩
    refine ⟨_, results_tmp rfl _ _ _, ?_⟩
    exact ⟨⟨a, xs.length, c, x, rfl, HH.out.vec, HH.out.wf, hL, HH.out.new.2⟩, HH.out.keep⟩
set_option maxHeartbeats 2000000 in
set_option maxRecDepth 100000 in
theorem collect_any (bK mb mn : Nat) (m : Lit → Option Value) (N : Nat) (hN5 : N ≤ 12) (hN : ∀ L, KeysOf m L → L.length ≤ N) (w : World) (hbK : w.heap[bK]? = some (.cells #[.map (some mb)] 139)) (hm : MP w 21 mb mn m) :
    Calls Ybaz.prog 115 #[.func (.func 117) #[] #[.pointer (some ⟨bK, 0, none⟩)]] w fun e w' => RetI32 w w' N e ∧ Keep (fun _ => False) w w' := by
  have HA := fun (_ : Unit) => (appendSeq_any bK mb mn m N hN5 hN w hbK hm).mono (fun e w' h => (⟨h.1, h.2⟩ : Hid (RetI32 w w' N e) ∧ Hid (Keep (fun _ => False) w w')))
  have HB : Hid (RetI32 w w N (.returned (.slice none 0 0))) := ⟨none, 0, 0, fun _ => 0, rfl, Vec.nil _ _ _ _, fun i hi => by omega, Nat.zero_le _, fun b q => by simp at q⟩
  clear hbK hm hN HB
  go_enter Ybaz.func115, Ybaz.ntmps115
  go_wp2_with (go_at_call 186; refine (HA ()).mono ?_; rintro e w2 ⟨⟨a, L, c, x, rfl, h⟩, HK⟩)
  go_ret
  exact ⟨⟨a, L, c, x, rfl, h⟩, HK.out⟩
theorem sort_vec32 (a : Option Addr) (n c : Nat) (x : Nat → Int) (w : World) (hn : n ≤ 12) (h : Vec w 21 1 a n c (fun i _ => .int .i32 (x i))) :
    Calls Ybaz.prog 116 #[.slice a n c] w fun e w' => e = .returned (.tuple #[]) ∧ Hid (∃ σ, Bij n σ ∧ (0 < n → ∃ g, a = some ⟨g, 0, none⟩ ∧ g < w.heap.size ∧ Row w' g n (fun i => .int .i32 (x (σ i)))) ∧ Keep (fun k => a = some ⟨k, 0, none⟩) w w') := by
  by_cases h0 : 0 < n
  · obtain ⟨g, rfl, hg, hr⟩ := h.blk h0
    refine (sort_i32 (some ⟨g, 0, none⟩) g n c x w hn (fun _ => rfl) ⟨fun x hx => by have := hr.cell x 0 hx (by omega); simpa using this, hr.free⟩).mono ?_
    rintro e w' ⟨rfl, σ, hs, r, k⟩
    exact ⟨rfl, σ, hs, fun _ => ⟨g, rfl, hg, r⟩, k.wide (fun i q => by rw [q])⟩
  · obtain rfl : n = 0 := by omega
    refine (sort_i32 a w.heap.size 0 c x w hn (fun q => absurd q h0) ⟨fun x hx => by omega, fun i => by simp [World.frozen?]⟩).mono ?_
    rintro e w' ⟨rfl, σ, hs, r, k⟩
    exact ⟨rfl, σ, hs, fun q => absurd q h0, ⟨k.os, k.tape, k.output, k.size, fun i hi _ => k.block i hi (by omega)⟩⟩
/-- Sorted keys. -/
def RetSorted (w w' : World) (N : Nat) (e : Ending) : Prop := ∃ (a : Option Addr) (L c : Nat) (x : Nat → Int), e = .returned (.slice a L c) ∧ (0 < L → ∃ g, a = some ⟨g, 0, none⟩ ∧ g < w'.heap.size ∧ w.heap.size ≤ g ∧ Row w' g L (fun i => .int .i32 (x i))) ∧ (∀ i, i < L → (Lit.int .i32 (x i)).wf = true) ∧ L ≤ N
set_option maxHeartbeats 2000000 in
set_option maxRecDepth 100000 in
theorem sorted_any (bK mb mn : Nat) (m : Lit → Option Value) (N : Nat) (hN5 : N ≤ 12) (hN : ∀ L, KeysOf m L → L.length ≤ N) (w : World) (hbK : w.heap[bK]? = some (.cells #[.map (some mb)] 139)) (hm : MP w 21 mb mn m) :
    Calls Ybaz.prog 55 #[.func (.func 117) #[] #[.pointer (some ⟨bK, 0, none⟩)]] w fun e w' => RetSorted w w' N e ∧ Keep (fun _ => False) w w' := by
  have HA := fun (_ : Unit) => (collect_any bK mb mn m N hN5 hN w hbK hm).mono (fun e w' h => (⟨h.1, h.2⟩ : RetI32 w w' N e ∧ Hid (Keep (fun _ => False) w w')))
  clear hbK hm hN
  go_enter Ybaz.func55, Ybaz.ntmps55
  go_upto_region 2 with (go_at_call 115; refine (HA ()).mono ?_; rintro e w2 ⟨⟨a, L, c, x, rfl, h1, h2, h3, h4⟩, HK⟩)
  clear HA
  have HS := fun (_ : Unit) => sort_vec32 a L c x w2 (by omega) h1
  have H2 : Hid _ := h2
  have H4 : Hid _ := h4
  clear h1 h2 h4
  go_wp2_with (go_at_call 116; refine (HS ()).mono ?_; rintro e w3 ⟨rfl, HS3⟩)
  go_ret
  obtain ⟨σ, hs, hr, hk⟩ := HS3.out
  refine ⟨⟨a, L, c, fun i => x (σ i), rfl, fun h0 => ?_, fun i hi => H2.out _ (hs.lt i hi), h3⟩, HK.out.trans hk (fun b q => .inr (H4.out b q))⟩
  obtain ⟨g, e, hg, r⟩ := hr h0
  exact ⟨g, e, Nat.lt_of_lt_of_le hg hk.size, H4.out g e, r⟩
end Go.Proofs.YbulkdvbsGreat

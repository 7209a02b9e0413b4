/-
  addEdge, walked.
-/
import Derived.Test.YbulkdvbsGreatNew
import Derived.Laws.BitsAllLaws
namespace Go.Proofs.YbulkdvbsGreat
open Go.RowKit

/-- A graph while it is built: n nodes, E edges. -/
structure GB (w : World) (G n E : Nat) (la : Option Addr) (lc : Nat) (aa : Option Addr) (ac : Nat) (ka : Option Addr) (kc : Nat) (ga : Option Addr) (gc : Nat) (last src dst kd : Nat → Int) : Prop where
  blk : w.heap[G]? = some (.cells (gcells n (.slice la n lc) (.slice aa (E + E) ac) (.slice ka E kc) (.slice ga (gn n) gc) vnil vnil vnil vnil) 201)
  vl : Vec w 21 1 la n lc (fun i _ => .int .i32 (last i))
  va : Vec w 21 1 aa (E + E) ac (fun i _ => .int .i32 (if i % 2 = 0 then src (i / 2) else dst (i / 2)))
  vk : Vec w 96 1 ka E kc (fun i _ => .int .u8 (kd i))
  vg : Vec w 31 1 ga (gn n) gc (fun _ _ => .int .u64 0)
  ne : ∀ b, la = some ⟨b, 0, none⟩ → ¬ aa = some ⟨b, 0, none⟩
  hl : ∀ i, i < n → -1 ≤ last i ∧ last i < E
  hs : ∀ i, i < E → (0 ≤ src i ∧ src i < n) ∧ (0 ≤ dst i ∧ dst i < n) ∧ 0 ≤ kd i ∧ kd i ≤ 255
/-- The blocks of a graph that adding an edge may turn. -/
def gOwn (G : Nat) (la aa ka : Option Addr) (b : Nat) : Prop := b = G ∨ la = some ⟨b, 0, none⟩ ∨ aa = some ⟨b, 0, none⟩ ∨ ka = some ⟨b, 0, none⟩

/-- Behind an edge more. -/
def GNext (w w' : World) (G n E : Nat) (la aa ka ga : Option Addr) (gc : Nat) : Prop := ∃ E' la' lc' aa' ac' ka' kc' last' src' dst' kd', GB w' G n E' la' lc' aa' ac' ka' kc' ga gc last' src' dst' kd' ∧
  Keep (gOwn G la aa ka) w w' ∧ (∀ b, gOwn G la' aa' ka' b → gOwn G la aa ka b ∨ w.heap.size ≤ b) ∧ E' ≤ E + 1

set_option maxHeartbeats 4000000 in
set_option maxRecDepth 100000 in
theorem addEdge_any (G n E : Nat) (la : Option Addr) (lc : Nat) (aa : Option Addr) (acp : Nat) (ka : Option Addr) (kc : Nat) (ga : Option Addr) (gc : Nat) (last src dst kd : Nat → Int) (u v : Nat) (d : Int) (w : World) (h : GB w G n E la lc aa acp ka kc ga gc last src dst kd)
    (hu : u < n) (hv : v < n) (hn : n ≤ 5) (hd : 1 ≤ d ∧ d ≤ 63) (hE : E ≤ 100000) :
    Calls Ybaz.prog 89 #[.pointer (some ⟨G, 0, none⟩), .int .i64 (u : Int), .int .i64 (v : Int), .int .u8 d] w fun e w' => e = .returned (.tuple #[]) ∧ GNext w w' G n E la aa ka ga gc := by
  obtain ⟨gl, rfl, hgl, rl⟩ := h.vl.blk (by omega)
  have c1 : w.cell? ⟨G, 1, none⟩ = some (.slice (some ⟨gl, 0, none⟩) n lc) := cell_of w G 1 _ _ h.blk
  have c2 : w.cell? ⟨G, 2, none⟩ = some (.slice aa (E + E) acp) := cell_of w G 2 _ _ h.blk
  have c3 : w.cell? ⟨G, 3, none⟩ = some (.slice ka E kc) := cell_of w G 3 _ _ h.blk
  have eu : w.cell? ⟨gl, u, none⟩ = some (.int .i32 (last u)) := by have := rl.cell u 0 hu (by omega); simpa using this
  have u1 : (u : Int) < (n : Int) := by omega
  have u2 : (u : Int).toNat = u := by omega
  have HH : Hid (GB w G n E (some ⟨gl, 0, none⟩) lc aa acp ka kc ga gc last src dst kd) := h
  obtain ⟨hl1, hl2⟩ := h.hl u hu
  have v1 : (v : Int) ≤ 5 := by omega
  have n1 : (n : Int) ≤ 5 := by omega
  have vw : IntKind.i32.wrap (v : Int) = (v : Int) := by unfold IntKind.wrap; simp [IntKind.bits, IntKind.signed]; omega
  have uw : IntKind.i32.wrap (u : Int) = (u : Int) := by unfold IntKind.wrap; simp [IntKind.bits, IntKind.signed]; omega
  have Ew : IntKind.i32.wrap (E : Int) = (E : Int) := by unfold IntKind.wrap; simp [IntKind.bits, IntKind.signed]; omega
  have E1 : (E : Int) ≤ 100000 := by omega
  clear h
  obtain ⟨L, HLL⟩ : ∃ L, Hid (L = last u) := ⟨_, rfl⟩
  rw [← HLL.out] at eu hl1 hl2
  go_enter Ybaz.func89, Ybaz.ntmps89
  go_upto_region 1 with fail
  go_cut [44] from 16 to 43 (fun s44 wx => w = wx ∧ ∃ b, s44 = .bool b ∧ (b = true → 0 ≤ L))
  case first =>
    by_cases hneg : L < 0
    · have hl4 : ¬ (0 : Int) ≤ L := by omega
      go_wp2
      go_meet
      exact ⟨rfl, false, rfl, nofun⟩
    · obtain ⟨e, HE⟩ : ∃ e : Nat, Hid (L = (e : Int)) := ⟨L.toNat, by show L = _; omega⟩
      have eE : e < E := by have := HE.out; omega
      obtain ⟨gA, rfl, hgA, rA⟩ := HH.out.va.blk (by omega)
      obtain ⟨gK, rfl, hgK, rK⟩ := HH.out.vk.blk (by omega)
      have ea : w.cell? ⟨gA, e + e + 1, none⟩ = some (.int .i32 (dst e)) := by
        have := rA.cell (e + e + 1) 0 (by omega) (by omega)
        simp only [Nat.mul_one, Nat.add_zero] at this
        rw [if_neg (by omega), show (e + e + 1) / 2 = e by omega] at this
        exact this
      have ek : w.cell? ⟨gK, e, none⟩ = some (.int .u8 (kd e)) := by have := rK.cell e 0 eE (by omega); simpa using this
      have e1 : (0 : Int) ≤ L := by have := HE.out; omega
      have w2 : IntKind.i32.wrap (2 * L) = 2 * L := by rw [HE.out]; unfold IntKind.wrap; simp [IntKind.bits, IntKind.signed]; omega
      have w3 : IntKind.i32.wrap (2 * L + 1) = 2 * L + 1 := by rw [HE.out]; unfold IntKind.wrap; simp [IntKind.bits, IntKind.signed]; omega
      have e2 : (2 * L + 1).toNat = e + e + 1 := by have := HE.out; omega
      have e3 : (2 * L + 1) < (E : Int) + (E : Int) := by have := HE.out; omega
      have e5 : (0 : Int) ≤ 2 * L + 1 := by have := HE.out; omega
      have e4 : L.toNat = e := by have := HE.out; omega
      by_cases q1 : dst e = (v : Int)
      · go_wp2
        go_meet
        exact ⟨rfl, _, rfl, fun _ => by have := HE.out; omega⟩
      · have q2 : (dst e == (v : Int)) = false := by simpa using q1
        go_wp2
        go_meet
        exact ⟨rfl, _, rfl, fun _ => by have := HE.out; omega⟩
  case rest =>
    obtain ⟨rfl, b, rfl, hb⟩ := hcut
    cases b with
    | true =>
      obtain ⟨e, HE⟩ : ∃ e : Nat, Hid (L = (e : Int)) := ⟨L.toNat, by have := hb rfl; show L = _; omega⟩
      have eE : e < E := by have := HE.out; omega
      obtain ⟨gK, rfl, hgK, rK⟩ := HH.out.vk.blk (by omega)
      have ek : w.cell? ⟨gK, e, none⟩ = some (.int .u8 (kd e)) := by have := rK.cell e 0 eE (by omega); simpa using this
      have fk := rK.free e
      have e4 : L.toNat = e := by have := HE.out; omega
      have e1 : (0 : Int) ≤ L := by have := HE.out; omega
      go_wp2
      refine bodyPost_ret (results_none rfl _ _ _) rfl ?_
      have kb : 0 ≤ bits BinOp.or IntKind.u8 (kd e) d ∧ bits BinOp.or IntKind.u8 (kd e) d ≤ 255 := by
        have h1 := HH.out.hs e eE
        rw [u8_or (kd e) d (by omega) (by omega) (by omega) (by omega)]
        have := Nat.or_lt_two_pow (x := (kd e).toNat) (y := d.toNat) (n := 8) (by omega) (by omega)
        omega
      have hk := Keep.setCell w ⟨gK, e, none⟩ (Value.int .u8 (bits BinOp.or IntKind.u8 (kd e) d))
      have hh := HH.out
      have oG : gK ≠ G := fun q => hh.vk.off hh.blk (by decide) (by rw [q])
      have hvk := hh.vk.set e 0 (Value.int .u8 (bits BinOp.or IntKind.u8 (kd e) d)) eE (by omega)
      rw [Nat.mul_one, Nat.add_zero] at hvk
      refine ⟨rfl, E, some ⟨gl, 0, none⟩, lc, aa, acp, some ⟨gK, 0, none⟩, kc, last, src, dst, fun i => if i = e then bits BinOp.or IntKind.u8 (kd e) d else kd i, ⟨hk.at hh.blk (fun q => oG q.symm), hh.vl.keep hk (fun b hb q => ?_), hh.va.keep hk (fun b hb q => ?_), hvk.congr Nat.one_pos (fun i c hi hc => ?_), hh.vg.keep hk (fun b hb q => ?_), hh.ne, hh.hl, fun i hi => ?_⟩, hk.wide (fun b q => .inr (.inr (.inr (by rw [q])))), fun b q => .inl q, by omega⟩
      · subst q; exact hh.vl.apart hh.vk (by decide) hb rfl
      · subst q; exact hh.va.apart hh.vk (by decide) hb rfl
      · by_cases q : i = e
        · subst q; simp [show c = 0 by omega]
        · simp [q]
      · subst q; exact hh.vg.apart hh.vk (by decide) hb rfl
      · have := hh.hs i hi
        refine ⟨this.1, this.2.1, ?_⟩
        split
        · exact kb
        · exact this.2.2
    | false =>
      have fu := rl.free u
      have hl3 := HH.out.vl.set u 0 (.int .i32 (E : Int)) hu (by omega)
      rw [Nat.mul_one, Nat.add_zero] at hl3
      have oG : gl ≠ G := fun q => HH.out.vl.off HH.out.blk (by decide) (by rw [q])
      have k3 := Keep.setCell w ⟨gl, u, none⟩ (.int .i32 (E : Int))
      have b3 := k3.at HH.out.blk (fun q => oG q.symm)
      have va3 := HH.out.va.keep k3 (fun b hb q => by subst q; exact HH.out.ne _ rfl hb)
      have vk3 := HH.out.vk.keep k3 (fun b hb q => by subst q; exact HH.out.vk.apart HH.out.vl (by decide) hb rfl)
      have vg3 := HH.out.vg.keep k3 (fun b hb q => by subst q; exact HH.out.vg.apart HH.out.vl (by decide) hb rfl)
      have oA : ¬ aa = some ⟨G, 0, none⟩ := HH.out.va.off HH.out.blk (by decide)
      have oK : ¬ ka = some ⟨G, 0, none⟩ := HH.out.vk.off HH.out.blk (by decide)
      go_upto_region 3 with fail
      go_region
      go_upto_region 4 with fail
      have HK4 : Hid (Keep (fun b => b = gl) w (w.setCell ⟨gl, u, none⟩ (.int .i32 (E : Int))).drew) := k3.drew
      have HB4 : Hid ((w.setCell ⟨gl, u, none⟩ (.int .i32 (E : Int))).drew.heap[G]? = some (.cells (gcells n (.slice (some ⟨gl, 0, none⟩) n lc) (.slice aa (E + E) acp) (.slice ka E kc) (.slice ga (gn n) gc) vnil vnil vnil vnil) 201)) := b3
      have HL4 : Hid (Vec (w.setCell ⟨gl, u, none⟩ (.int .i32 (E : Int))).drew 21 1 (some ⟨gl, 0, none⟩) n lc (fun i _ => .int .i32 (if i = u then (E : Int) else last i))) := ⟨(hl3.congr (g := fun i _ => .int .i32 (if i = u then (E : Int) else last i)) Nat.one_pos (fun i c _ hc => by
        by_cases q : i = u
        · subst q; simp [show c = 0 by omega]
        · simp [q])).own⟩
      have HA4 : Hid (Vec (w.setCell ⟨gl, u, none⟩ (.int .i32 (E : Int))).drew 21 1 aa (E + E) acp (fun i _ => .int .i32 (if i % 2 = 0 then src (i / 2) else dst (i / 2)))) := ⟨va3.own⟩
      have HKd4 : Hid (Vec (w.setCell ⟨gl, u, none⟩ (.int .i32 (E : Int))).drew 96 1 ka E kc (fun i _ => .int .u8 (kd i))) := ⟨vk3.own⟩
      have HG4 : Hid (Vec (w.setCell ⟨gl, u, none⟩ (.int .i32 (E : Int))).drew 31 1 ga (gn n) gc (fun _ _ => .int .u64 0)) := ⟨vg3.own⟩
      generalize (w.setCell ⟨gl, u, none⟩ (.int .i32 (E : Int))).drew = w4 at *
      clear k3 b3 va3 vk3 vg3 hl3 c1 c2 c3 eu fu
      have c2 : w4.cell? ⟨G, 2, none⟩ = some (.slice aa (E + E) acp) := cell_of w4 G 2 _ _ HB4.out
      have hv1 := HA4.out.alloc (Obj.cells #[.int .i32 (u : Int), .int .i32 (v : Int)] 21)
      have hE9 : E + E ≤ 100000000 := by omega
      have n0 : (w4.alloc (Obj.cells #[.int .i32 (u : Int), .int .i32 (v : Int)] 21)).cell? ⟨w4.heap.size, 0, none⟩ = some (.int .i32 (u : Int)) := World.cell?_alloc_at _ _ _ _ rfl
      have n1' : (w4.alloc (Obj.cells #[.int .i32 (u : Int), .int .i32 (v : Int)] 21)).cell? ((⟨w4.heap.size, 0, none⟩ : Addr).add 1) = some (.int .i32 (v : Int)) := World.cell?_alloc_at _ _ _ _ rfl
      go_upto_region 5 with (first
        | (at_builtin; refine wpList_push2 (w4.alloc (Obj.cells #[.int .i32 (u : Int), .int .i32 (v : Int)] 21)) rfl _ _ 95 rfl 21 4 _ Ybaz.underlying95 inf21 rfl (by decide) aa (E + E) acp _ rfl hv1 ⟨w4.heap.size, 0, none⟩ 2 rfl (.int .i32 (u : Int)) (.int .i32 (v : Int)) n0 n1' rfl rfl hE9 ?_; intro g cap w5 hv5 hk5 hg5 hl5; have hG5 := hk5.at (heap_grow _ HB4.out) oA; have c5 := cell_of w5 G 2 _ _ hG5; have z5 := free_of w5 G 2 _ _ hG5; clear hv1 n0 n1'))
      obtain ⟨hG6, hv6, hk6, hgG6, hgw6⟩ := field_push (i := 2) HB4.out hv5 hk5 hg5 oA
      have hL6 := HL4.out.keep hk6 (fun b hb q => by
        rcases q with q | q
        · injection hb with hb; injection hb with hb; subst q; exact oG hb
        · exact HH.out.ne b hb q)
      have hK6 := HKd4.out.keep hk6 (fun b hb q => by
        rcases q with q | q
        · subst q; exact oK hb
        · exact HKd4.out.apart HA4.out (by decide) hb q)
      have hT6 := HG4.out.keep hk6 (fun b hb q => by
        rcases q with q | q
        · subst q; exact HG4.out.off HB4.out (by decide) hb
        · exact HG4.out.apart HA4.out (by decide) hb q)
      generalize w5.setCell ⟨G, 2, none⟩ (.slice (some ⟨g, 0, none⟩) (E + E + 2) cap) = w6 at *
      have HB6 : Hid (w6.heap[G]? = some (.cells (gcells n (.slice (some ⟨gl, 0, none⟩) n lc) (.slice (some ⟨g, 0, none⟩) (E + E + 2) cap) (.slice ka E kc) (.slice ga (gn n) gc) vnil vnil vnil vnil) 201)) := hG6
      have HV6 : Hid _ := hv6
      have HK6 : Hid _ := hk6
      have HL6 : Hid _ := hL6
      have HKd6 : Hid _ := hK6
      have HT6 : Hid _ := hT6
      have oK6 : ¬ ka = some ⟨G, 0, none⟩ := oK
      clear hG6 hv6 hk6 hL6 hK6 hT6 hG5 c5 z5 hv5 hk5 c2
      have c3 : w6.cell? ⟨G, 3, none⟩ = some (.slice ka E kc) := cell_of w6 G 3 _ _ HB6.out
      have hv1 := HKd6.out.alloc (Obj.cells #[.int .u8 d] 96)
      have hE8 : E ≤ 100000000 := by omega
      go_wp2_with (first
        | (at_builtin; refine wpList_push (w6.alloc (Obj.cells #[.int .u8 d] 96)) rfl _ _ 155 rfl 96 1 1 _ Ybaz.underlying155 inf96 rfl Nat.one_pos (by decide) ka E kc _ rfl hv1 ⟨w6.heap.size, 0, none⟩ 1 rfl (fun _ => .int .u8 d) (new1 w6 _ 96) (fun _ _ => rfl) hE8 ?_; intro g7 cap7 w7 hv7 hk7 hg7 hl7; have hG7 := hk7.at (heap_grow _ HB6.out) oK6; have c7 := cell_of w7 G 3 _ _ hG7; have z7 := free_of w7 G 3 _ _ hG7; clear hv1))
      go_end0
      obtain ⟨hG8, hv8, hk8, hgG8, hgw8⟩ := field_push (i := 3) HB6.out hv7 hk7 hg7 oK6
      have hL8 := HL6.out.keep hk8 (fun b hb q => by
        rcases q with q | q
        · injection hb with hb; injection hb with hb; subst q; exact oG hb
        · exact HL6.out.apart HKd6.out (by decide) hb q)
      have hA8 := HV6.out.keep hk8 (fun b hb q => by
        rcases q with q | q
        · injection hb with hb; injection hb with hb; subst q; exact hgG6 hb
        · exact HV6.out.apart HKd6.out (by decide) hb q)
      have hT8 := HT6.out.keep hk8 (fun b hb q => by
        rcases q with q | q
        · subst q; exact HT6.out.off HB6.out (by decide) hb
        · exact HT6.out.apart HKd6.out (by decide) hb q)
      have s4 := HK4.out.size
      have s6 := HK6.out.size
      have hkk : Keep (gOwn G (some ⟨gl, 0, none⟩) aa ka) w _ := ((HK4.out.wide (fun b q => .inr (.inl (by rw [q])))).trans HK6.out (fun b q => by
        rcases q with q | q
        · exact .inl (.inl q)
        · exact .inl (.inr (.inr (.inl q))))).trans hk8 (fun b q => by
        rcases q with q | q
        · exact .inl (.inl q)
        · exact .inl (.inr (.inr (.inr q))))
      refine ⟨rfl, E + 1, some ⟨gl, 0, none⟩, lc, some ⟨g, 0, none⟩, cap, some ⟨g7, 0, none⟩, cap7, fun i => if i = u then (E : Int) else last i, fun i => if i = E then (u : Int) else src i, fun i => if i = E then (v : Int) else dst i, fun i => if i = E then d else kd i, ⟨?_, hL8, ?_, ?_, hT8, ?_, ?_, ?_⟩, hkk, ?_, Nat.le_refl _⟩
      · have e2 : E + 1 + (E + 1) = E + E + 2 := by omega
        rw [e2]; exact hG8
      · have e2 : E + 1 + (E + 1) = E + E + 2 := by omega
        rw [e2]
        refine hA8.congr Nat.one_pos (fun i c hi hc => ?_)
        unfold push
        by_cases q1 : i = E + E + 1
        · subst q1; simp [show (E + E + 1) % 2 = 1 by omega, show (E + E + 1) / 2 = E by omega]
        · by_cases q2 : i = E + E
          · subst q2; simp [show (E + E) % 2 = 0 by omega, show (E + E) / 2 = E by omega]
          · have q3 : i / 2 ≠ E := by omega
            simp [q1, q2, q3]
      · refine hv8.congr Nat.one_pos (fun i c hi hc => ?_)
        unfold push
        by_cases q1 : i = E
        · simp [q1]
        · simp [q1]
      · intro b hb hb2
        injection hb with hb; injection hb with hb
        injection hb2 with hb2; injection hb2 with hb2
        subst hb
        rcases hgw6 with q | q
        · exact HH.out.ne gl rfl (by rw [q, hb2])
        · omega
      · intro i hi
        split
        · omega
        · have := HH.out.hl i hi; omega
      · intro i hi
        by_cases q : i = E
        · subst q; simp; omega
        · simp only [q, if_false]
          exact HH.out.hs i (by omega)
      · intro b q
        rcases q with q | q | q | q
        · exact .inl (.inl q)
        · exact .inl (.inr (.inl q))
        · injection q with q; injection q with q; subst q
          rcases hgw6 with q | q
          · exact .inl (.inr (.inr (.inl q)))
          · exact .inr (by omega)
        · injection q with q; injection q with q; subst q
          rcases hgw8 with q | q
          · exact .inl (.inr (.inr (.inr q)))
          · exact .inr (by omega)
end Go.Proofs.YbulkdvbsGreat

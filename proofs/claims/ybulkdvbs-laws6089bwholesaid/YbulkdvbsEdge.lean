import Derived.Test.YbulkdvbsGr2
import Derived.Deep.RegionHeld3
import Derived.Deep.QuietTactic
import Derived.BigQuiet
import Derived.Deep.Cut
namespace Go.Proofs.Ybulkdvbs
open Go.RowKit

theorem wrap32_small (x : Int) (h0 : 0 ≤ x) (h1 : x ≤ 2147483647) : IntKind.i32.wrap x = x := by
  unfold IntKind.wrap; simp [IntKind.bits, IntKind.signed]; omega

set_option maxHeartbeats 1000000 in
set_option maxRecDepth 100000 in
theorem edge_any (base G : Nat) (N : Int) (L A : List Int) (K : Nat) (T : List Int) (vl va vk vg : Value) (w : World) (h : Gr w base G N L A K T vl va vk vg) (u v : Nat) (x : Int) (hx : L[u]? = some x) (hv : v ≤ 1000000) (hL : L.length ≤ 1000000) (hA : A.length = 2 * K) (hK : K ≤ 1000000)
    (hno : x < 0 ∨ ∃ (e : Nat) (y : Int), x = e ∧ A[2 * e + 1]? = some y ∧ y ≠ v) :
    Calls Yba.prog 11 #[.pointer (some ⟨G, 0, none⟩), .int .i64 u, .int .i64 v, .int .u8 0] w fun e w' => e = .returned (.tuple #[]) ∧
      ∃ va' vk', Gr w' base G N (L.set u K) (A ++ [(u : Int), (v : Int)]) (K + 1) T vl va' vk' vg ∧ Step (foot G vl va vk vg) (foot G vl va' vk' vg) w w' := by
  have hu : u < L.length := (List.getElem?_eq_some_iff.1 hx).1
  obtain ⟨gl, cl, rfl, _, _⟩ := h.rl.form (by omega)
  obtain ⟨ak, ck, rfl⟩ := row_form h.rk
  have c1 := h.c1
  have c3 := h.c3
  have e0 : w.cell? ⟨gl, u, none⟩ = some (.int .i32 x) := row_cell h.rl u _ (by simp [hx])
  have f0 : w.frozen? ⟨gl, u, none⟩ = false := h.rl.frozenAt u
  have u0 : (0 : Int) ≤ (u : Int) := by omega
  have u1 : (u : Int) < (L.length : Int) := by omega
  have hL2 : (L.length : Int) ≤ 1000000 := by omega
  have hK2 : (K : Int) ≤ 1000000 := by omega
  have hv2 : (v : Int) ≤ 1000000 := by omega
  have hne : gl ≠ G := fun e => h.ol (by rw [← e]; rfl)
  have hw1 : IntKind.i32.wrap (K : Int) = (K : Int) := wrap32_small _ (by omega) (by omega)
  have hw2 : IntKind.i32.wrap (u : Int) = (u : Int) := wrap32_small _ (by omega) (by omega)
  have hw3 : IntKind.i32.wrap (v : Int) = (v : Int) := wrap32_small _ (by omega) (by omega)
  have HX : Hid (L[u]? = some x) := hx
  have HA : Hid (A.length = 2 * K) := hA
  clear hx hA
  have HV : Hid (x < 0 ∧ w.cell? ⟨G, 2, none⟩ = some va ∧ decide (0 ≤ x) = false ∨ ∃ (ga ca e : Nat) (y : Int), x = e ∧ e < K ∧ w.cell? ⟨G, 2, none⟩ = some (.slice (some ⟨ga, 0, none⟩) A.length ca) ∧ w.cell? ⟨ga, 2 * e + 1, none⟩ = some (.int .i32 y) ∧ (y == (v : Int)) = false ∧ wrap32 (2 * (e : Int)) = 2 * (e : Int) ∧ wrap32 (2 * (e : Int) + 1) = 2 * (e : Int) + 1 ∧ 2 * (e : Int) + 1 < (A.length : Int)) := by
    rcases hno with hno | ⟨e, y, rfl, hy, hyv⟩
    · exact .inl ⟨hno, h.c2, decide_eq_false (by omega)⟩
    · have hlen : 2 * e + 1 < A.length := (List.getElem?_eq_some_iff.1 hy).1
      have hA := HA.out
      obtain ⟨ga, ca, rfl, _, _⟩ := h.ra.form (by omega)
      exact .inr ⟨ga, ca, e, y, rfl, by omega, h.c2, row_cell h.ra _ _ (by simp [hy]), by simpa using hyv, by unfold wrap32; omega, by unfold wrap32; omega, by omega⟩
  clear hno
  rcases HV.out with ⟨hx0, c2, hd⟩ | ⟨ga, ca, e, y, rfl, heK, c2, ce, hyv, hwa, hwb, hlb⟩
  all_goals
    go_enter Yba.func11, Yba.ntmps11
    go_wp2_with fail
    go_region_held3 (fun w' => w'.cell? ⟨G, 1, none⟩ = some (.slice (some ⟨gl, 0, none⟩) L.length cl) ∧ w'.cell? ⟨G, 3, none⟩ = some (.slice ak K ck)) (go_keep) (fail)
    generalize hW : (w.setCell ⟨gl, u, none⟩ (.int .i32 (K : Int))).drew = w1
    have h1 : Gr w1 base G N (L.set u K) A K T (.slice (some ⟨gl, 0, none⟩) L.length cl) va (.slice ak K ck) vg := by rw [← hW]; exact (h.setLast u K).drew
    have s1 : Step (foot G (.slice (some ⟨gl, 0, none⟩) L.length cl) va (.slice ak K ck) vg) (foot G (.slice (some ⟨gl, 0, none⟩) L.length cl) va (.slice ak K ck) vg) w w1 := by
      rw [← hW]; exact ((Step.refl _ _).setCell _ _ (.inr (.inl rfl))).drew
    clear hW h c1 c2 c3 e0 f0
    have c2 := h1.c2
    have c3 := h1.c3
    obtain ⟨i21, hi, hz, hs, hb⟩ := inf21
    have hbase : base ≤ (w1.alloc (Obj.cells #[Value.int .i32 (u : Int), Value.int .i32 (v : Int)] 21)).heap.size := by
      have := h1.low; have := h1.lt; simp; omega
    go_wp2_with (at_builtin; (refine wpList_append_lies (w1.alloc (Obj.cells #[Value.int .i32 (u : Int), Value.int .i32 (v : Int)] 21)) rfl _ _ 35 rfl base 21 i21 _ 1 4 Yba.underlying35 hi hz hs hb rfl (by omega) va A.length (A.map (Value.int .i32)) rfl (h1.ra.alloc _) ⟨w1.heap.size, 0, none⟩ 2 2 [.int .i32 (u : Int), .int .i32 (v : Int)] rfl rfl ?news ?one (by omega) ?h63 ?bytes hbase (w1.heap.size + 1) (by simp) ?_))
    case news => exact World.news_of_block (cs := #[Value.int .i32 (u : Int), Value.int .i32 (v : Int)]) (heap_alloc_new w1 _)
    case one => intro y hy; simp at hy; rcases hy with rfl | rfl <;> rfl
    case h63 => have := HA.out; unfold maxLen; omega
    case bytes => have := HA.out; omega
    intro g cap w2 hown hgrow hat hlt
    have hat' : va.ownBlock = some g ∨ g = (w1.alloc (Obj.cells #[Value.int .i32 (u : Int), Value.int .i32 (v : Int)] 21)).heap.size := by simpa using hat
    have h2 := (h1.alloc (Obj.cells #[Value.int .i32 (u : Int), Value.int .i32 (v : Int)] 21)).appA [(u : Int), (v : Int)] hown hgrow hat'
    have hGlt : G < (w1.alloc (Obj.cells #[Value.int .i32 (u : Int), Value.int .i32 (v : Int)] 21)).heap.size := by have := h1.lt; simp; omega
    have d2 : w2.cell? ⟨G, 2, none⟩ = some va := by
      rw [hgrow.cell_far ⟨G, 2, none⟩ hGlt (fun q => h1.oa q.symm)]; exact (h1.alloc _).c2
    have d3 : w2.cell? ⟨G, 3, none⟩ = some (.slice ak K ck) := by
      rw [hgrow.cell_far ⟨G, 3, none⟩ hGlt (fun q => h1.oa q.symm)]; exact (h1.alloc _).c3
    have df : w2.frozen? ⟨G, 2, none⟩ = false := by
      rw [hgrow.frozen_far ⟨G, 2, none⟩ hGlt (fun q => h1.oa q.symm)]; exact (h1.alloc _).f 2
    have s2 : Step (foot G (.slice (some ⟨gl, 0, none⟩) L.length cl) va (.slice ak K ck) vg) (foot G (.slice (some ⟨gl, 0, none⟩) L.length cl) (.slice (some ⟨g, 0, none⟩) (A.length + 2) cap) (.slice ak K ck) vg) w (w2.setCell ⟨G, 2, none⟩ (.slice (some ⟨g, 0, none⟩) (A.length + 2) cap)) := by
      have t := (((s1.alloc (Obj.cells #[Value.int .i32 (u : Int), Value.int .i32 (v : Int)] 21)).grown hgrow (fun k hk => .inr (.inr (.inl hk)))).setCell ⟨G, 2, none⟩ (.slice (some ⟨g, 0, none⟩) (A.length + 2) cap) (.inl rfl))
      refine t.to fun k hk => ?_
      rcases hk with hk | hk | hk | hk
      · exact .inl (.inl hk)
      · exact .inl (.inr (.inl hk))
      · have e : g = k := by simpa [Value.ownBlock] using hk
        subst e
        rcases hat with h | h
        · exact .inl (.inr (.inr (.inl h)))
        · have := s1.size; exact .inr (by omega)
      · exact .inl (.inr (.inr (.inr hk)))
    clear c2 c3 hgrow hown hbase hi hz hs hb i21
    obtain ⟨i41, hi, hz, hs, hb⟩ := inf41
    have hbase : base ≤ ((w2.setCell ⟨G, 2, none⟩ (.slice (some ⟨g, 0, none⟩) (A.length + 2) cap)).alloc (Obj.cells #[Value.int .u8 0] 41)).heap.size := by
      have := h2.low; have := h2.lt; simp at this ⊢; omega
    go_wp2_with (at_builtin; (refine wpList_append_lies ((w2.setCell ⟨G, 2, none⟩ (.slice (some ⟨g, 0, none⟩) (A.length + 2) cap)).alloc (Obj.cells #[Value.int .u8 0] 41)) rfl _ _ 37 rfl base 41 i41 _ 1 1 Yba.underlying37 hi hz hs hb rfl (by omega) (.slice ak K ck) K (List.replicate K (Value.int .u8 0)) rfl (h2.rk.alloc _) ⟨w2.heap.size, 0, none⟩ 1 1 [.int .u8 0] rfl rfl ?news ?one (by omega) ?h63 ?bytes hbase (w2.heap.size + 1) (by simp) ?_))
    case news => exact World.news_of_block (cs := #[Value.int .u8 0]) (by have := heap_alloc_new (w2.setCell ⟨G, 2, none⟩ (.slice (some ⟨g, 0, none⟩) (A.length + 2) cap)) (Obj.cells #[Value.int .u8 0] 41); simpa using this)
    case one => intro y hy; simp at hy; subst hy; rfl
    case h63 => unfold maxLen; omega
    case bytes => omega
    intro g3 cap3 w3 hown hgrow hat3 hlt3
    have hat3' : (Value.slice ak K ck).ownBlock = some g3 ∨ g3 = ((w2.setCell ⟨G, 2, none⟩ (.slice (some ⟨g, 0, none⟩) (A.length + 2) cap)).alloc (Obj.cells #[Value.int .u8 0] 41)).heap.size := by simpa using hat3
    have h3 := (h2.alloc (Obj.cells #[Value.int .u8 0] 41)).appK hown hgrow hat3'
    have hGlt3 : G < ((w2.setCell ⟨G, 2, none⟩ (.slice (some ⟨g, 0, none⟩) (A.length + 2) cap)).alloc (Obj.cells #[Value.int .u8 0] 41)).heap.size := by have := h2.lt; simp at this ⊢; omega
    have k3 : w3.cell? ⟨G, 3, none⟩ = some (.slice ak K ck) := by
      rw [hgrow.cell_far ⟨G, 3, none⟩ hGlt3 (fun q => h2.ok q.symm)]; exact (h2.alloc _).c3
    have kf : w3.frozen? ⟨G, 3, none⟩ = false := by
      rw [hgrow.frozen_far ⟨G, 3, none⟩ hGlt3 (fun q => h2.ok q.symm)]; exact (h2.alloc _).f 3
    have s3 : Step (foot G (.slice (some ⟨gl, 0, none⟩) L.length cl) va (.slice ak K ck) vg) (foot G (.slice (some ⟨gl, 0, none⟩) L.length cl) (.slice (some ⟨g, 0, none⟩) (A.length + 2) cap) (.slice (some ⟨g3, 0, none⟩) (K + 1) cap3) vg) w (w3.setCell ⟨G, 3, none⟩ (.slice (some ⟨g3, 0, none⟩) (K + 1) cap3)) := by
      have t := (((s2.alloc (Obj.cells #[Value.int .u8 0] 41)).grown hgrow (fun k hk => .inr (.inr (.inr (.inl hk))))).setCell ⟨G, 3, none⟩ (.slice (some ⟨g3, 0, none⟩) (K + 1) cap3) (.inl rfl))
      refine t.to fun k hk => ?_
      rcases hk with hk | hk | hk | hk | hk
      · exact .inl (.inl hk)
      · exact .inl (.inr (.inl hk))
      · exact .inl (.inr (.inr (.inl hk)))
      · have e : g3 = k := by simpa [Value.ownBlock] using hk
        subst e
        rcases hat3 with h | h
        · exact .inl (.inr (.inr (.inr (.inl h))))
        · have := s2.size; simp at this; exact .inr (by omega)
      · exact .inl (.inr (.inr (.inr (.inr hk))))
    have HR : Hid (∃ va' vk', Gr (w3.setCell ⟨G, 3, none⟩ (.slice (some ⟨g3, 0, none⟩) (K + 1) cap3)) base G N (L.set u K) (A ++ [(u : Int), (v : Int)]) (K + 1) T (.slice (some ⟨gl, 0, none⟩) L.length cl) va' vk' vg ∧ Step (foot G (.slice (some ⟨gl, 0, none⟩) L.length cl) va (.slice ak K ck) vg) (foot G (.slice (some ⟨gl, 0, none⟩) L.length cl) va' vk' vg) w (w3.setCell ⟨G, 3, none⟩ (.slice (some ⟨g3, 0, none⟩) (K + 1) cap3))) := ⟨_, _, h3, s3⟩
    clear h1 h2 h3 s1 s2 s3 hgrow hown
    go_wp2
    go_end0
    exact ⟨rfl, HR.out⟩

end Go.Proofs.Ybulkdvbs

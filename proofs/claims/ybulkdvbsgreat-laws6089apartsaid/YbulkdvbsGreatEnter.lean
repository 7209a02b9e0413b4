/-
  The search for components: what lies where.
-/
import Derived.Test.YbulkdvbsGreatTarj
import Derived.Test.YbulkdvbsGreatWriters
import Derived.Deep.RegionHeldLaw
namespace Go.Proofs.YbulkdvbsGreat
open Go.RowKit

/-- A frame of the path, cell by cell. -/
def fr (a b c : Nat) (j : Nat) : Value := if j = 0 then .int .i32 (a : Int) else if j = 1 then .int .i32 (b : Int) else .int .i32 (c : Int)
theorem Vec.take {w : World} {e : TypeId} {k : Nat} {a : Option Addr} {n c : Nat} {f : Nat → Nat → Value} (h : Vec w e k a n c f) (m : Nat) (hm : m ≤ n) : Vec w e k a m c f := by
  refine ⟨by rw [rowK_len], ?_⟩
  rcases h.own.2 with ⟨h0, h1⟩ | ⟨g, cap, cur, hv, h1, hb, hle, hmx, hsz, ht⟩
  · injection h0 with h2 h3 h4
    have : m = 0 := by omega
    subst this h2 h4
    exact .inl ⟨rfl, rfl⟩
  · injection hv with h2 h3 h4
    subst h2 h4
    refine .inr ⟨g, c, cur, rfl, h1, hb, by omega, hmx, hsz, ?_⟩
    have e1 : cur.toList.take (m * k) = (cur.toList.take (n * k)).take (m * k) := by
      rw [List.take_take, Nat.min_eq_left (Nat.mul_le_mul_right k hm)]
    rw [e1, ht]
    apply List.ext_getElem?
    intro j
    by_cases hj : j < m * k
    · have hj2 : j < n * k := Nat.lt_of_lt_of_le hj (Nat.mul_le_mul_right k hm)
      rw [List.getElem?_take_of_lt hj, rowK_at _ _ _ _ hj, rowK_at _ _ _ _ hj2]
    · rw [List.getElem?_eq_none (by rw [List.length_take, rowK_len]; omega), List.getElem?_eq_none (by rw [rowK_len]; omega)]

/-- What the search for components has: from block B on its rows and boxes, bG the box of the graph. -/
structure CM (w : World) (bG B G n : Nat) (idx low comp : Nat → Int) (on : Nat → Bool) (vis : Nat) (sa : Option Addr) (sl sc : Nat) (sk : Nat → Nat) (pa : Option Addr) (pl pc : Nat) (pn pe pf : Nat → Nat) : Prop where
  g : w.heap[bG]? = some (.cells #[.pointer (some ⟨G, 0, none⟩)] 56)
  bi : w.heap[B + 1]? = some (.cells #[.slice (some ⟨B, 0, none⟩) n n] 95)
  bl : w.heap[B + 3]? = some (.cells #[.slice (some ⟨B + 2, 0, none⟩) n n] 95)
  bo : w.heap[B + 6]? = some (.cells #[.slice (some ⟨B + 5, 0, none⟩) n n] 86)
  bv : w.heap[B + 7]? = some (.cells #[.int .i32 (vis : Int)] 21)
  bs : w.heap[B + 8]? = some (.cells #[.slice sa sl sc] 95)
  bp : w.heap[B + 9]? = some (.cells #[.slice pa pl pc] 232)
  ri : Row w B n (fun i => .int .i32 (idx i))
  rl : Row w (B + 2) n (fun i => .int .i32 (low i))
  rc : Row w (B + 4) n (fun i => .int .i32 (comp i))
  ro : Row w (B + 5) n (fun i => .bool (on i))
  vs : Vec w 21 1 sa sl sc (fun i _ => .int .i32 (sk i : Int))
  vp : Vec w 234 3 pa pl pc (fun i c => fr (pn i) (pe i) (pf i) c)
  sz : B + 10 ≤ w.heap.size
  hb : bG < B
  hsa : ∀ b, sa = some ⟨b, 0, none⟩ → B + 10 ≤ b
  hpa : ∀ b, pa = some ⟨b, 0, none⟩ → B + 10 ≤ b

theorem CM.setLow {w : World} {bG B G n : Nat} {idx low comp : Nat → Int} {on : Nat → Bool} {vis : Nat} {sa : Option Addr} {sl sc : Nat} {sk : Nat → Nat} {pa : Option Addr} {pl pc : Nat} {pn pe pf : Nat → Nat} (h : CM w bG B G n idx low comp on vis sa sl sc sk pa pl pc pn pe pf) (u : Nat) (hu : u < n) (x : Int) :
    CM (w.setCell ⟨B + 2, u, none⟩ (.int .i32 x)) bG B G n idx (fun i => if i = u then x else low i) comp on vis sa sl sc sk pa pl pc pn pe pf ∧ Keep (fun b => B ≤ b) w (w.setCell ⟨B + 2, u, none⟩ (.int .i32 x)) := by
  have kk := Keep.setCell w ⟨B + 2, u, none⟩ (.int .i32 x)
  exact ⟨⟨kk.at h.g (by have := h.hb; show ¬ bG = B + 2; omega), kk.at h.bi (by have := h.hb; show ¬ B + 1 = B + 2; omega), kk.at h.bl (by have := h.hb; show ¬ B + 3 = B + 2; omega), kk.at h.bo (by have := h.hb; show ¬ B + 6 = B + 2; omega), kk.at h.bv (by have := h.hb; show ¬ B + 7 = B + 2; omega), kk.at h.bs (by have := h.hb; show ¬ B + 8 = B + 2; omega), kk.at h.bp (by have := h.hb; show ¬ B + 9 = B + 2; omega), h.ri.keep (kk.block _ (by have := h.sz; omega) (by show ¬ B = B + 2; omega)), (h.rl.set u _ hu).congr (fun i _ => by split <;> rfl), h.rc.keep (kk.block _ (by have := h.sz; omega) (by show ¬ B + 4 = B + 2; omega)), h.ro.keep (kk.block _ (by have := h.sz; omega) (by show ¬ B + 5 = B + 2; omega)), h.vs.keep kk (fun b hb q => by have := h.hsa b hb; have q2 : b = B + 2 := q; omega), h.vp.keep kk (fun b hb q => by have := h.hpa b hb; have q2 : b = B + 2 := q; omega), by have := kk.size; have := h.sz; omega, h.hb, h.hsa, h.hpa⟩, kk.wide (fun b q => by have q2 : b = B + 2 := q; omega)⟩

theorem CM.setIdx {w : World} {bG B G n : Nat} {idx low comp : Nat → Int} {on : Nat → Bool} {vis : Nat} {sa : Option Addr} {sl sc : Nat} {sk : Nat → Nat} {pa : Option Addr} {pl pc : Nat} {pn pe pf : Nat → Nat} (h : CM w bG B G n idx low comp on vis sa sl sc sk pa pl pc pn pe pf) (u : Nat) (hu : u < n) (x : Int) :
    CM (w.setCell ⟨B, u, none⟩ (.int .i32 x)) bG B G n (fun i => if i = u then x else idx i) low comp on vis sa sl sc sk pa pl pc pn pe pf ∧ Keep (fun b => B ≤ b) w (w.setCell ⟨B, u, none⟩ (.int .i32 x)) := by
  have kk := Keep.setCell w ⟨B, u, none⟩ (.int .i32 x)
  exact ⟨⟨kk.at h.g (by have := h.hb; show ¬ bG = B; omega), kk.at h.bi (by have := h.hb; show ¬ B + 1 = B; omega), kk.at h.bl (by have := h.hb; show ¬ B + 3 = B; omega), kk.at h.bo (by have := h.hb; show ¬ B + 6 = B; omega), kk.at h.bv (by have := h.hb; show ¬ B + 7 = B; omega), kk.at h.bs (by have := h.hb; show ¬ B + 8 = B; omega), kk.at h.bp (by have := h.hb; show ¬ B + 9 = B; omega), (h.ri.set u _ hu).congr (fun i _ => by split <;> rfl), h.rl.keep (kk.block _ (by have := h.sz; omega) (by show ¬ B + 2 = B; omega)), h.rc.keep (kk.block _ (by have := h.sz; omega) (by show ¬ B + 4 = B; omega)), h.ro.keep (kk.block _ (by have := h.sz; omega) (by show ¬ B + 5 = B; omega)), h.vs.keep kk (fun b hb q => by have := h.hsa b hb; have q2 : b = B := q; omega), h.vp.keep kk (fun b hb q => by have := h.hpa b hb; have q2 : b = B := q; omega), by have := kk.size; have := h.sz; omega, h.hb, h.hsa, h.hpa⟩, kk.wide (fun b q => by have q2 : b = B := q; omega)⟩

theorem CM.setComp {w : World} {bG B G n : Nat} {idx low comp : Nat → Int} {on : Nat → Bool} {vis : Nat} {sa : Option Addr} {sl sc : Nat} {sk : Nat → Nat} {pa : Option Addr} {pl pc : Nat} {pn pe pf : Nat → Nat} (h : CM w bG B G n idx low comp on vis sa sl sc sk pa pl pc pn pe pf) (u : Nat) (hu : u < n) (x : Int) :
    CM (w.setCell ⟨B + 4, u, none⟩ (.int .i32 x)) bG B G n idx low (fun i => if i = u then x else comp i) on vis sa sl sc sk pa pl pc pn pe pf ∧ Keep (fun b => B ≤ b) w (w.setCell ⟨B + 4, u, none⟩ (.int .i32 x)) := by
  have kk := Keep.setCell w ⟨B + 4, u, none⟩ (.int .i32 x)
  exact ⟨⟨kk.at h.g (by have := h.hb; show ¬ bG = B + 4; omega), kk.at h.bi (by have := h.hb; show ¬ B + 1 = B + 4; omega), kk.at h.bl (by have := h.hb; show ¬ B + 3 = B + 4; omega), kk.at h.bo (by have := h.hb; show ¬ B + 6 = B + 4; omega), kk.at h.bv (by have := h.hb; show ¬ B + 7 = B + 4; omega), kk.at h.bs (by have := h.hb; show ¬ B + 8 = B + 4; omega), kk.at h.bp (by have := h.hb; show ¬ B + 9 = B + 4; omega), h.ri.keep (kk.block _ (by have := h.sz; omega) (by show ¬ B = B + 4; omega)), h.rl.keep (kk.block _ (by have := h.sz; omega) (by show ¬ B + 2 = B + 4; omega)), (h.rc.set u _ hu).congr (fun i _ => by split <;> rfl), h.ro.keep (kk.block _ (by have := h.sz; omega) (by show ¬ B + 5 = B + 4; omega)), h.vs.keep kk (fun b hb q => by have := h.hsa b hb; have q2 : b = B + 4 := q; omega), h.vp.keep kk (fun b hb q => by have := h.hpa b hb; have q2 : b = B + 4 := q; omega), by have := kk.size; have := h.sz; omega, h.hb, h.hsa, h.hpa⟩, kk.wide (fun b q => by have q2 : b = B + 4 := q; omega)⟩

theorem CM.setOn {w : World} {bG B G n : Nat} {idx low comp : Nat → Int} {on : Nat → Bool} {vis : Nat} {sa : Option Addr} {sl sc : Nat} {sk : Nat → Nat} {pa : Option Addr} {pl pc : Nat} {pn pe pf : Nat → Nat} (h : CM w bG B G n idx low comp on vis sa sl sc sk pa pl pc pn pe pf) (u : Nat) (hu : u < n) (x : Bool) :
    CM (w.setCell ⟨B + 5, u, none⟩ (.bool x)) bG B G n idx low comp (fun i => if i = u then x else on i) vis sa sl sc sk pa pl pc pn pe pf ∧ Keep (fun b => B ≤ b) w (w.setCell ⟨B + 5, u, none⟩ (.bool x)) := by
  have kk := Keep.setCell w ⟨B + 5, u, none⟩ (.bool x)
  exact ⟨⟨kk.at h.g (by have := h.hb; show ¬ bG = B + 5; omega), kk.at h.bi (by have := h.hb; show ¬ B + 1 = B + 5; omega), kk.at h.bl (by have := h.hb; show ¬ B + 3 = B + 5; omega), kk.at h.bo (by have := h.hb; show ¬ B + 6 = B + 5; omega), kk.at h.bv (by have := h.hb; show ¬ B + 7 = B + 5; omega), kk.at h.bs (by have := h.hb; show ¬ B + 8 = B + 5; omega), kk.at h.bp (by have := h.hb; show ¬ B + 9 = B + 5; omega), h.ri.keep (kk.block _ (by have := h.sz; omega) (by show ¬ B = B + 5; omega)), h.rl.keep (kk.block _ (by have := h.sz; omega) (by show ¬ B + 2 = B + 5; omega)), h.rc.keep (kk.block _ (by have := h.sz; omega) (by show ¬ B + 4 = B + 5; omega)), (h.ro.set u _ hu).congr (fun i _ => by split <;> rfl), h.vs.keep kk (fun b hb q => by have := h.hsa b hb; have q2 : b = B + 5 := q; omega), h.vp.keep kk (fun b hb q => by have := h.hpa b hb; have q2 : b = B + 5 := q; omega), by have := kk.size; have := h.sz; omega, h.hb, h.hsa, h.hpa⟩, kk.wide (fun b q => by have q2 : b = B + 5 := q; omega)⟩

theorem CM.setVis {w : World} {bG B G n : Nat} {idx low comp : Nat → Int} {on : Nat → Bool} {vis : Nat} {sa : Option Addr} {sl sc : Nat} {sk : Nat → Nat} {pa : Option Addr} {pl pc : Nat} {pn pe pf : Nat → Nat} (h : CM w bG B G n idx low comp on vis sa sl sc sk pa pl pc pn pe pf) (x : Nat) :
    CM (w.setCell ⟨B + 7, 0, none⟩ (.int .i32 (x : Int))) bG B G n idx low comp on x sa sl sc sk pa pl pc pn pe pf ∧ Keep (fun b => B ≤ b) w (w.setCell ⟨B + 7, 0, none⟩ (.int .i32 (x : Int))) := by
  have kk := Keep.setCell w ⟨B + 7, 0, none⟩ (.int .i32 (x : Int))
  exact ⟨⟨kk.at h.g (by have := h.hb; show ¬ bG = B + 7; omega), kk.at h.bi (by have := h.hb; show ¬ B + 1 = B + 7; omega), kk.at h.bl (by have := h.hb; show ¬ B + 3 = B + 7; omega), kk.at h.bo (by have := h.hb; show ¬ B + 6 = B + 7; omega), heap_set w (B + 7) 0 _ _ _ h.bv, kk.at h.bs (by have := h.hb; show ¬ B + 8 = B + 7; omega), kk.at h.bp (by have := h.hb; show ¬ B + 9 = B + 7; omega), h.ri.keep (kk.block _ (by have := h.sz; omega) (by show ¬ B = B + 7; omega)), h.rl.keep (kk.block _ (by have := h.sz; omega) (by show ¬ B + 2 = B + 7; omega)), h.rc.keep (kk.block _ (by have := h.sz; omega) (by show ¬ B + 4 = B + 7; omega)), h.ro.keep (kk.block _ (by have := h.sz; omega) (by show ¬ B + 5 = B + 7; omega)), h.vs.keep kk (fun b hb q => by have := h.hsa b hb; have q2 : b = B + 7 := q; omega), h.vp.keep kk (fun b hb q => by have := h.hpa b hb; have q2 : b = B + 7 := q; omega), by have := kk.size; have := h.sz; omega, h.hb, h.hsa, h.hpa⟩, kk.wide (fun b q => by have q2 : b = B + 7 := q; omega)⟩

theorem CM.cutStack {w : World} {bG B G n : Nat} {idx low comp : Nat → Int} {on : Nat → Bool} {vis : Nat} {sa : Option Addr} {sl sc : Nat} {sk : Nat → Nat} {pa : Option Addr} {pl pc : Nat} {pn pe pf : Nat → Nat} (h : CM w bG B G n idx low comp on vis sa sl sc sk pa pl pc pn pe pf) (m : Nat) (hm : m ≤ sl) :
    CM (w.setCell ⟨B + 8, 0, none⟩ (.slice sa m sc)) bG B G n idx low comp on vis sa m sc sk pa pl pc pn pe pf ∧ Keep (fun b => B ≤ b) w (w.setCell ⟨B + 8, 0, none⟩ (.slice sa m sc)) := by
  have kk := Keep.setCell w ⟨B + 8, 0, none⟩ (.slice sa m sc)
  exact ⟨⟨kk.at h.g (by have := h.hb; show ¬ bG = B + 8; omega), kk.at h.bi (by have := h.hb; show ¬ B + 1 = B + 8; omega), kk.at h.bl (by have := h.hb; show ¬ B + 3 = B + 8; omega), kk.at h.bo (by have := h.hb; show ¬ B + 6 = B + 8; omega), kk.at h.bv (by have := h.hb; show ¬ B + 7 = B + 8; omega), heap_set w (B + 8) 0 _ _ _ h.bs, kk.at h.bp (by have := h.hb; show ¬ B + 9 = B + 8; omega), h.ri.keep (kk.block _ (by have := h.sz; omega) (by show ¬ B = B + 8; omega)), h.rl.keep (kk.block _ (by have := h.sz; omega) (by show ¬ B + 2 = B + 8; omega)), h.rc.keep (kk.block _ (by have := h.sz; omega) (by show ¬ B + 4 = B + 8; omega)), h.ro.keep (kk.block _ (by have := h.sz; omega) (by show ¬ B + 5 = B + 8; omega)), (h.vs.take m hm).keep kk (fun b hb q => by have := h.hsa b hb; have q2 : b = B + 8 := q; omega), h.vp.keep kk (fun b hb q => by have := h.hpa b hb; have q2 : b = B + 8 := q; omega), by have := kk.size; have := h.sz; omega, h.hb, h.hsa, h.hpa⟩, kk.wide (fun b q => by have q2 : b = B + 8 := q; omega)⟩

theorem CM.cutPath {w : World} {bG B G n : Nat} {idx low comp : Nat → Int} {on : Nat → Bool} {vis : Nat} {sa : Option Addr} {sl sc : Nat} {sk : Nat → Nat} {pa : Option Addr} {pl pc : Nat} {pn pe pf : Nat → Nat} (h : CM w bG B G n idx low comp on vis sa sl sc sk pa pl pc pn pe pf) (m : Nat) (hm : m ≤ pl) :
    CM (w.setCell ⟨B + 9, 0, none⟩ (.slice pa m pc)) bG B G n idx low comp on vis sa sl sc sk pa m pc pn pe pf ∧ Keep (fun b => B ≤ b) w (w.setCell ⟨B + 9, 0, none⟩ (.slice pa m pc)) := by
  have kk := Keep.setCell w ⟨B + 9, 0, none⟩ (.slice pa m pc)
  exact ⟨⟨kk.at h.g (by have := h.hb; show ¬ bG = B + 9; omega), kk.at h.bi (by have := h.hb; show ¬ B + 1 = B + 9; omega), kk.at h.bl (by have := h.hb; show ¬ B + 3 = B + 9; omega), kk.at h.bo (by have := h.hb; show ¬ B + 6 = B + 9; omega), kk.at h.bv (by have := h.hb; show ¬ B + 7 = B + 9; omega), kk.at h.bs (by have := h.hb; show ¬ B + 8 = B + 9; omega), heap_set w (B + 9) 0 _ _ _ h.bp, h.ri.keep (kk.block _ (by have := h.sz; omega) (by show ¬ B = B + 9; omega)), h.rl.keep (kk.block _ (by have := h.sz; omega) (by show ¬ B + 2 = B + 9; omega)), h.rc.keep (kk.block _ (by have := h.sz; omega) (by show ¬ B + 4 = B + 9; omega)), h.ro.keep (kk.block _ (by have := h.sz; omega) (by show ¬ B + 5 = B + 9; omega)), h.vs.keep kk (fun b hb q => by have := h.hsa b hb; have q2 : b = B + 9 := q; omega), (h.vp.take m hm).keep kk (fun b hb q => by have := h.hpa b hb; have q2 : b = B + 9 := q; omega), by have := kk.size; have := h.sz; omega, h.hb, h.hsa, h.hpa⟩, kk.wide (fun b q => by have q2 : b = B + 9 := q; omega)⟩

theorem CM.setEdge {w : World} {bG B G n : Nat} {idx low comp : Nat → Int} {on : Nat → Bool} {vis : Nat} {sa : Option Addr} {sl sc : Nat} {sk : Nat → Nat} {pa : Option Addr} {pl pc : Nat} {pn pe pf : Nat → Nat} (h : CM w bG B G n idx low comp on vis sa sl sc sk pa pl pc pn pe pf) (gp : Nat) (hpg : pa = some ⟨gp, 0, none⟩) (i : Nat) (hi : i < pl) (x : Nat) :
    CM (w.setCell ⟨gp, i * 3 + 1, none⟩ (.int .i32 (x : Int))) bG B G n idx low comp on vis sa sl sc sk (some ⟨gp, 0, none⟩) pl pc pn (fun j => if j = i then x else pe j) pf ∧ Keep (fun b => B ≤ b) w (w.setCell ⟨gp, i * 3 + 1, none⟩ (.int .i32 (x : Int))) := by
  subst hpg
  have hgp := h.hpa gp rfl
  have kk := Keep.setCell w ⟨gp, i * 3 + 1, none⟩ (.int .i32 (x : Int))
  exact ⟨⟨kk.at h.g (by have := hgp; have := h.hb; show ¬ bG = gp; omega), kk.at h.bi (by have := hgp; have := h.hb; show ¬ B + 1 = gp; omega), kk.at h.bl (by have := hgp; have := h.hb; show ¬ B + 3 = gp; omega), kk.at h.bo (by have := hgp; have := h.hb; show ¬ B + 6 = gp; omega), kk.at h.bv (by have := hgp; have := h.hb; show ¬ B + 7 = gp; omega), kk.at h.bs (by have := hgp; have := h.hb; show ¬ B + 8 = gp; omega), kk.at h.bp (by have := hgp; have := h.hb; show ¬ B + 9 = gp; omega), h.ri.keep (kk.block _ (by have := h.sz; omega) (by have := hgp; show ¬ B = gp; omega)), h.rl.keep (kk.block _ (by have := h.sz; omega) (by have := hgp; show ¬ B + 2 = gp; omega)), h.rc.keep (kk.block _ (by have := h.sz; omega) (by have := hgp; show ¬ B + 4 = gp; omega)), h.ro.keep (kk.block _ (by have := h.sz; omega) (by have := hgp; show ¬ B + 5 = gp; omega)), h.vs.keep kk (fun b hb q => by subst q; exact h.vs.apart h.vp (by decide) hb rfl), (h.vp.set i 1 (.int .i32 (x : Int)) hi (by decide)).congr (by decide) (fun j c _ hc => by by_cases e : j = i <;> by_cases e2 : c = 1 <;> simp [e, e2, fr]), by have := kk.size; have := h.sz; omega, h.hb, h.hsa, h.hpa⟩, kk.wide (fun b q => by have q2 : b = gp := q; omega)⟩

theorem CM.keepF {w w' : World} {bG B G n : Nat} {idx low comp : Nat → Int} {on : Nat → Bool} {vis : Nat} {sa : Option Addr} {sl sc : Nat} {sk : Nat → Nat} {pa : Option Addr} {pl pc : Nat} {pn pe pf : Nat → Nat} (h : CM w bG B G n idx low comp on vis sa sl sc sk pa pl pc pn pe pf) (kk : Keep (fun _ => False) w w') : CM w' bG B G n idx low comp on vis sa sl sc sk pa pl pc pn pe pf := by
  have := h.sz
  have := kk.size
  exact ⟨kk.at h.g id, kk.at h.bi id, kk.at h.bl id, kk.at h.bo id, kk.at h.bv id, kk.at h.bs id, kk.at h.bp id, h.ri.keep (kk.block _ (by omega) id), h.rl.keep (kk.block _ (by omega) id), h.rc.keep (kk.block _ (by omega) id), h.ro.keep (kk.block _ (by omega) id), h.vs.keep kk (fun _ _ q => q), h.vp.keep kk (fun _ _ q => q), by omega, h.hb, h.hsa, h.hpa⟩
theorem CM.congr {w : World} {bG B G n : Nat} {idx low comp : Nat → Int} {on : Nat → Bool} {vis : Nat} {sa : Option Addr} {sl sc : Nat} {sk : Nat → Nat} {pa : Option Addr} {pl pc : Nat} {pn pe pf : Nat → Nat} (h : CM w bG B G n idx low comp on vis sa sl sc sk pa pl pc pn pe pf) {low' comp' : Nat → Int} {on' : Nat → Bool} {sk' pn' pe' pf' : Nat → Nat} (h1 : ∀ i, i < n → low i = low' i) (h2 : ∀ i, i < n → comp i = comp' i) (h3 : ∀ i, i < n → on i = on' i) (h4 : ∀ i, i < sl → sk i = sk' i) (h5 : ∀ i, i < pl → pn i = pn' i ∧ pe i = pe' i ∧ pf i = pf' i) : CM w bG B G n idx low' comp' on' vis sa sl sc sk' pa pl pc pn' pe' pf' :=
  ⟨h.g, h.bi, h.bl, h.bo, h.bv, h.bs, h.bp, h.ri, h.rl.congr (fun i hi => by rw [h1 i hi]), h.rc.congr (fun i hi => by rw [h2 i hi]), h.ro.congr (fun i hi => by rw [h3 i hi]), h.vs.congr Nat.one_pos (fun i c hi _ => by rw [h4 i hi]), h.vp.congr (by decide) (fun i c hi _ => by obtain ⟨q1, q2, q3⟩ := h5 i hi; rw [q1, q2, q3]), h.sz, h.hb, h.hsa, h.hpa⟩
end Go.Proofs.YbulkdvbsGreat

/-
  Result.settle, walked.
-/
import Derived.Test.YbulkdvbsGreatCycA
import Derived.Test.YbulkdvbsGreatOrder
import Derived.Test.YbulkdvbsGreatCycle
import Derived.Test.YbulkdvbsGreatSortA
import Derived.BigRegion
namespace Go.Proofs.YbulkdvbsGreat
open Go.RowKit

/-- The cells of a Result. -/
def resC (T Cm Ab Un : Int) (Se Rg cs : Bool) (o y a : Value) : Array Value := #[.int .i64 T, .int .i64 Cm, .int .i64 Ab, .int .i64 Un, .bool Se, .bool false, .bool Rg, .bool cs, .bool false, .pointer none, .pointer none, o, y, a]
theorem exec_make38 {ρ : Operand → Value} {dst : Option Tmp} {x y : Operand} {ty : TypeId} {pos : String} {after : Array Edge} {guard : Option (Nat × Bool)} : execOp ρ { dst, op := .makeSlice 38 x y, type := ty, pos, after, guard } = opMk 38 (ρ x) (ρ y) := rfl
attribute [local go_sem ↓] exec_make38
attribute [local go_sem ↓ 2000] exec_app
/-- What settle leaves. -/
def SetOut (w w' : World) (RB G : Nat) (D0 : Nat → Prop) (aa : Option Addr) (T Cm Ab Un : Int) (Se Rg : Bool) : Prop := (∃ cs o y a, w'.heap[RB]? = some (.cells (resC T Cm Ab Un Se Rg cs o y a) 41)) ∧ Keep (fun b => b = RB ∨ b = G ∨ D0 b ∨ aa = some ⟨b, 0, none⟩) w w'
theorem res_set7 {w : World} {RB : Nat} {T Cm Ab Un : Int} {Se Rg cs : Bool} {o y a : Value} (h : w.heap[RB]? = some (.cells (resC T Cm Ab Un Se Rg cs o y a) 41)) (c : Bool) : (w.setCell ⟨RB, 7, none⟩ (.bool c)).heap[RB]? = some (.cells (resC T Cm Ab Un Se Rg c o y a) 41) := heap_set _ _ _ _ _ _ h
theorem res_set11 {w : World} {RB : Nat} {T Cm Ab Un : Int} {Se Rg cs : Bool} {o y a : Value} (h : w.heap[RB]? = some (.cells (resC T Cm Ab Un Se Rg cs o y a) 41)) (c : Value) : (w.setCell ⟨RB, 11, none⟩ c).heap[RB]? = some (.cells (resC T Cm Ab Un Se Rg cs c y a) 41) := heap_set _ _ _ _ _ _ h
theorem res_set12 {w : World} {RB : Nat} {T Cm Ab Un : Int} {Se Rg cs : Bool} {o y a : Value} (h : w.heap[RB]? = some (.cells (resC T Cm Ab Un Se Rg cs o y a) 41)) (c : Value) : (w.setCell ⟨RB, 12, none⟩ c).heap[RB]? = some (.cells (resC T Cm Ab Un Se Rg cs o c a) 41) := heap_set _ _ _ _ _ _ h
theorem res_set13 {w : World} {RB : Nat} {T Cm Ab Un : Int} {Se Rg cs : Bool} {o y a : Value} (h : w.heap[RB]? = some (.cells (resC T Cm Ab Un Se Rg cs o y a) 41)) (c : Value) : (w.setCell ⟨RB, 13, none⟩ c).heap[RB]? = some (.cells (resC T Cm Ab Un Se Rg cs o y c) 41) := heap_set _ _ _ _ _ _ h
/-- Two rows, one behind the other. -/
def joinF (n : Nat) (f y : Nat → Nat → Value) : Nat → Nat → Value := fun i c => if i < n then f i c else y (i - n) c
theorem rowK_joinK (n m k : Nat) (f y : Nat → Nat → Value) (hk : 0 < k) : rowK (n + m) k (joinF n f y) = rowK n k f ++ rowK m k y := by
  apply List.ext_getElem?
  intro j
  by_cases h1 : j < n * k
  · have h2 : j < (n + m) * k := by rw [Nat.add_mul]; omega
    have h3 : j / k < n := (Nat.div_lt_iff_lt_mul hk).2 h1
    rw [rowK_at _ _ _ _ h2, List.getElem?_append_left (by rw [rowK_len]; exact h1), rowK_at _ _ _ _ h1]
    simp [joinF, h3]
  · rw [List.getElem?_append_right (by rw [rowK_len]; omega), rowK_len]
    by_cases h2 : j < (n + m) * k
    · have h4 : j - n * k < m * k := by rw [Nat.add_mul] at h2; omega
      have h3 : ¬ j / k < n := by rw [Nat.div_lt_iff_lt_mul hk]; exact h1
      rw [rowK_at _ _ _ _ h2, rowK_at _ _ _ _ h4]
      have e1 : (j - n * k) / k = j / k - n := by rw [Nat.mul_comm]; exact Nat.sub_mul_div _ _ _
      have e2 : (j - n * k) % k = j % k := by rw [Nat.mul_comm]; exact Nat.sub_mul_mod (by rw [Nat.mul_comm]; omega)
      simp [joinF, h3, e1, e2]
    · rw [List.getElem?_eq_none (by rw [rowK_len]; omega), List.getElem?_eq_none (by rw [rowK_len, Nat.add_mul] at *; omega)]
theorem run_joinK (w : World) (t e ty : TypeId) (k bytes : Nat) (z : Value) (ht : Ybaz.prog.underlying t = some (.slice e)) (hinf : ∃ i, Ybaz.prog.info? e = some i ∧ i.zero = some z ∧ i.size = k ∧ i.bytes = bytes) (hzs : z.cells.size = k) (hk : 0 < k) (hby : bytes ≤ 1024)
    (a : Option Addr) (n c : Nat) (f : Nat → Nat → Value) (hv : Vec w e k a n c f) (xa : Option Addr) (m xc : Nat) (y : Nat → Nat → Value) (hx : Vec w e k xa m xc y) (h1 : ∀ i c, i < m → c < k → (y i c).oneCell' = true) (hn : n ≤ 100000) (hm : m ≤ 100000) :
    ∃ a' cap w', (opApp t ty (.slice a n c) (.slice xa m xc)).run Ybaz.prog w = .ok (.value (.slice a' (n + m) cap)) w' ∧ Vec w' e k a' (n + m) cap (joinF n f y) ∧ Keep (fun b => a = some ⟨b, 0, none⟩) w w' ∧ (∀ b, a' = some ⟨b, 0, none⟩ → a = some ⟨b, 0, none⟩ ∨ w.heap.size ≤ b) := by
  obtain ⟨i, hi, hz, hsize, hb⟩ := hinf
  rcases hx.own.2 with ⟨ex, hm0⟩ | ⟨g, cap, cur, ex, _⟩
  · obtain ⟨q1, q2, q3⟩ := Value.slice.inj ex
    subst q1; subst q2; subst q3
    refine ⟨a, c, w, ?_, hv.congr hk (fun j d hj _ => ?_), Keep.refl _ _, fun b e => .inl e⟩
    · unfold opApp
      rw [Sem.run_bind, run_append_owned_none (P := Ybaz.prog) w 0 t ty e i k ht hi _ n _ hv.own]
      simp
    · have : j < n := hj
      simp [joinF, this]
  · obtain ⟨q1, q2, q3⟩ := Value.slice.inj ex
    subst q1
    obtain ⟨v', w', hr, h2, h3, _, h5⟩ := run_append_own_at (P := Ybaz.prog) w 0 t ty e i z k bytes ht hi hz hsize hb hzs hk (.slice a n c) n _ hv.own ⟨g, 0, none⟩ m xc (rowK m k y) (by rw [rowK_len]) (fun j u hu => by
        have hj : j < m * k := by have := (List.getElem?_eq_some_iff.1 hu).1; rwa [rowK_len] at this
        have hm0 : 0 < m := by
          rcases Nat.eq_zero_or_pos m with q | q
          · subst q; simp at hj
          · exact q
        obtain ⟨g', eg, _, rk⟩ := hx.blk hm0
        have e1 : g = g' := (Addr.mk.inj (Option.some.inj eg)).1
        rw [rowK_at _ _ _ _ hj] at hu
        have hu := Option.some.inj hu
        rw [← hu, add_none, e1]
        have := rk.cell (j / k) (j % k) ((Nat.div_lt_iff_lt_mul hk).2 hj) (Nat.mod_lt _ hk)
        rw [Nat.div_add_mod' j k] at this
        rw [Nat.zero_add]
        exact this) (fun u hu => by
        unfold rowK at hu
        simp only [List.mem_map, List.mem_range] at hu
        obtain ⟨j, hj, rfl⟩ := hu
        exact h1 _ _ ((Nat.div_lt_iff_lt_mul hk).2 hj) (Nat.mod_lt _ hk)) (by unfold maxLen; omega) (by
        have : (n + m) * bytes ≤ 200000 * 1024 := Nat.mul_le_mul (by omega) hby
        omega) (Nat.zero_le _)
    have hk3 := (grown_keep h3).wide (fun b ⟨o, s, e⟩ => hv.plain e)
    rw [← rowK_joinK n m k f y hk] at h2
    rcases h2.2 with ⟨ev, hn0⟩ | ⟨g2, cap2, cur2, ev, _⟩
    · subst ev
      refine ⟨none, 0, w', ?_, ⟨by rw [hn0]; rw [hn0] at h2; exact h2⟩, hk3, fun b e => by simp at e⟩
      unfold opApp
      rw [Sem.run_bind, hr, hn0]
      simp
    · subst ev
      refine ⟨some ⟨g2, 0, none⟩, cap2, w', ?_, ⟨h2⟩, hk3, fun b e => ?_⟩
      · unfold opApp
        rw [Sem.run_bind, hr]
        simp
      · have e1 : g2 = b := (Addr.mk.inj (Option.some.inj e)).1
        subst e1
        rcases h5 with h5 | h5
        · left
          cases a with
          | none => simp [Value.ownBlock] at h5
          | some q => simp [Value.ownBlock] at h5; exact hv.plain (by rw [h5])
        · right
          have : g2 = w.heap.size := by simpa [Value.ownBlock] using h5
          omega
/-- The cycle's transactions so far. -/
structure LC (RB : Nat) (T Cm Ab Un : Int) (Se Rg : Bool) (a : Value) (w5 : World) (i : Nat) (ya : Option Addr) (yc : Nat) (wr : World) : Prop where
  res : wr.heap[RB]? = some (.cells (resC T Cm Ab Un Se Rg false (.slice none 0 0) (.slice ya i yc) a) 41)
  v : ∃ z : Nat → Nat → Value, Vec wr 31 1 ya i yc z
  k : Keep (fun b => b = RB) w5 wr
  nw : ∀ b, ya = some ⟨b, 0, none⟩ → w5.heap.size ≤ b
theorem LC.push {RB : Nat} {T Cm Ab Un : Int} {Se Rg : Bool} {a : Value} {w5 : World} {i : Nat} {ya : Option Addr} {yc : Nat} {wr w2 : World} (h : LC RB T Cm Ab Un Se Rg a w5 i ya yc wr) (hRB : RB < w5.heap.size) (o : Obj) {g cap : Nat} {z : Nat → Nat → Value} (hv : Vec w2 31 1 (some ⟨g, 0, none⟩) (i + 1) cap z) (hk : Keep (fun b => ya = some ⟨b, 0, none⟩) (wr.alloc o).drew w2) (hg : ya = some ⟨g, 0, none⟩ ∨ wr.heap.size ≤ g) :
    LC RB T Cm Ab Un Se Rg a w5 (i + 1) (some ⟨g, 0, none⟩) cap (w2.setCell ⟨RB, 12, none⟩ (.slice (some ⟨g, 0, none⟩) (i + 1) cap)) ∧ w2.heap[RB]? = some (.cells (resC T Cm Ab Un Se Rg false (.slice none 0 0) (.slice ya i yc) a) 41) := by
  have ka := (Keep.alloc (fun _ => False) wr o).drew
  have k1 : Keep (fun b => b = RB) w5 (wr.alloc o).drew := h.k.trans ka (fun _ q => q.elim)
  have hz := h.k.size
  have hR : ¬ ya = some ⟨RB, 0, none⟩ := fun e => by have := h.nw RB e; omega
  have r2 := hk.at (ka.at h.res id) hR
  have k2 : Keep (fun b => b = RB) w5 w2 := k1.trans hk (fun b q => .inr (h.nw b q))
  have ks := Keep.setCell w2 ⟨RB, 12, none⟩ (.slice (some ⟨g, 0, none⟩) (i + 1) cap)
  have hg5 : w5.heap.size ≤ g := by
    rcases hg with q | q
    · exact h.nw g q
    · omega
  refine ⟨⟨res_set12 r2 _, ⟨z, hv.keep ks (fun b e q => ?_)⟩, k2.trans ks (fun b q => .inl q), fun b e => ?_⟩, r2⟩
  · have e1 : g = b := (Addr.mk.inj (Option.some.inj e)).1
    have e2 : b = RB := q
    omega
  · have e1 : g = b := (Addr.mk.inj (Option.some.inj e)).1
    omega
set_option maxHeartbeats 8000000 in
set_option maxRecDepth 100000 in
theorem settle19_any (DE : Option Nat → World → (Nat → Prop) → Prop) (p1 p2 p3 p4 p5 p6 : Nat) (G n E : Nat) (la : Option Addr) (lc : Nat) (aa0 : Option Addr) (acp : Nat) (ka : Option Addr) (kc : Nat) (ga : Option Addr) (gc : Nat) (last src dst kd : Nat → Int) (ta : Option Addr) (tc : Nat) (tx : Nat → Int) (D0 : Nat → Prop) (RB : Nat) (T Cm Ab Un : Int) (Se Rg : Bool) (aa : Option Addr) (an ac : Nat) (F : Nat → Nat → Value) (w : World)
    (hdeps : 0 < n → DepsC DE n p1 p2 p3 p4 p5 p6) (hde : ∀ q w w' D, DE q w D → Keep (fun b => ¬ D b) w w' → DE q w' D) (hD : DE none w D0) (hn : n ≤ 5) (hE : E ≤ 100000) (hgb : GB w G n E la lc aa0 acp ka kc ga gc last src dst kd)
    (hres : w.heap[RB]? = some (.cells (resC T Cm Ab Un Se Rg false (.slice none 0 0) (.slice none 0 0) (.slice aa an ac)) 41)) (hav : Vec w 157 4 aa an ac F) (haok : ∀ i, i < an → AnOk (F i)) (han : an ≤ 2)
    (htx : 0 < n → ∃ TX, ta = some ⟨TX, 0, none⟩ ∧ TX < w.heap.size ∧ Row w TX n (fun i => .int .u64 (tx i)) ∧ ¬ D0 TX ∧ TX ≠ G ∧ TX ≠ RB) (hDl : ∀ b, D0 b → b < w.heap.size) (hDG : ¬ D0 G ∧ (∀ b, ga = some ⟨b, 0, none⟩ → ¬ D0 b) ∧ ¬ D0 RB ∧ ∀ b, aa = some ⟨b, 0, none⟩ → ¬ D0 b) (hGR : RB ≠ G) :
    Calls Ybaz.prog 19 #[.pointer (some ⟨RB, 0, none⟩), .pointer (some ⟨G, 0, none⟩), .slice ta n tc, .func (.func 54) #[] #[.pointer (some ⟨p1, 0, none⟩), .pointer (some ⟨p2, 0, none⟩), .pointer (some ⟨p3, 0, none⟩), .pointer (some ⟨p4, 0, none⟩), .pointer (some ⟨p5, 0, none⟩), .pointer (some ⟨p6, 0, none⟩)]] w fun e w' => e = .returned (.tuple #[]) ∧ SetOut w w' RB G D0 aa T Cm Ab Un Se Rg := by
  have n1 : (n : Int) ≤ 5 := by omega
  have hGl := heap_lt hgb.blk
  have HGBk : Hid _ := hgb.blk
  have c9 : w.cell? ⟨RB, 9, none⟩ = some (.pointer none) := cell_of _ _ 9 _ _ hres
  have HC := fun (_ : Unit) => (order_any G n E la lc aa0 acp ka kc ga gc last src dst kd w hgb hn hE).mono (fun e w' h => (by
    rcases h with ⟨⟨OB, ol, oc, f, rfl, h⟩ | ⟨rfl, h⟩, k⟩
    · exact ⟨_, rfl, .inl ⟨OB, ol, oc, f, rfl, h⟩, k⟩
    · exact ⟨_, rfl, .inr ⟨rfl, h⟩, k⟩ : ∃ s, e = .returned s ∧ ((∃ (OB ol oc : Nat) (f : Nat → Nat), s = .slice (some ⟨OB, 0, none⟩) ol oc ∧ ol ≤ n ∧ Row w' OB ol (fun i => .int .i64 (f i : Int)) ∧ (∀ i, i < ol → f i < n) ∧ w.heap.size ≤ OB ∧ OB < w'.heap.size) ∨ (s = .slice none 0 0 ∧ 0 < n ∧ ∃ E la lc FB NX KN first next kd, GL w' G n E la lc ga gc FB NX KN vnil first next kd ∧ E ≤ 100000 ∧ w.heap.size ≤ FB ∧ w.heap.size ≤ NX ∧ w.heap.size ≤ KN)) ∧ Hid (Keep (fun b => b = G) w w')))
  have HRES : Hid _ := hres
  have HAV : Hid _ := hav
  have HTX : Hid _ := htx
  have HDP : Hid _ := hdeps
  have HDE : Hid _ := hde
  have HD : Hid _ := hD
  have HDG : Hid _ := hDG
  have HDl : Hid _ := hDl
  have HAO : Hid _ := haok
  clear hgb hres hav htx hdeps hde hD hDG hDl haok
  go_enter Ybaz.func19, Ybaz.ntmps19
  go_upto_region 2 with (go_at_call 67; refine (HC ()).mono ?_; rintro e w2 ⟨s, rfl, hs, HK2⟩)
  clear HC c9
  have hr2 := HK2.out.at HRES.out hGR
  have c5 : w2.cell? ⟨RB, 5, none⟩ = some (.bool false) := cell_of _ _ 5 _ _ hr2
  have c7 : w2.cell? ⟨RB, 7, none⟩ = some (.bool false) := cell_of _ _ 7 _ _ hr2
  have f7 : w2.frozen? ⟨RB, 7, none⟩ = false := free_of _ _ 7 _ _ hr2
  have HR2 : Hid _ := hr2
  clear hr2
  rcases hs with ⟨OB, ol, oc, f, rfl, hol, hrow, hf, hob, hobl⟩ | ⟨rfl, hn0, hgl⟩
  · have HOW : Hid _ := hrow
    have HF : Hid _ := hf
    clear hrow hf
    have r38 := fun W => run_mkv 38 31 (.int .u64 0) 1 8 Ybaz.underlying38 inf31 (by omega) W ol (by omega)
    have hr3 := res_set7 HR2.out true
    have k3 := Keep.setCell w2 ⟨RB, 7, none⟩ (.bool true)
    have HR3 : Hid _ := hr3
    have HK3 : Hid (Keep (fun b => b = RB ∨ b = G) w (w2.setCell ⟨RB, 7, none⟩ (.bool true))) := (HK2.out.wide (fun b q => .inr q)).trans k3 (fun b q => .inl (.inl q))
    have HO3 : Hid (Row (w2.setCell ⟨RB, 7, none⟩ (.bool true)) OB ol (fun i => .int .i64 (f i : Int)) ∧ OB < (w2.setCell ⟨RB, 7, none⟩ (.bool true)).heap.size) := by
      have hne : OB ≠ RB := by have := heap_lt HRES.out; omega
      exact ⟨HOW.out.keep (k3.block OB hobl hne), Nat.lt_of_lt_of_le hobl k3.size⟩
    clear hr3 k3 HOW
    go_upto_region 6 with fail
    clear c5 c7 f7
    generalize w2.setCell ⟨RB, 7, none⟩ (.bool true) = w3 at *
    have hr4 := (Keep.alloc (fun _ => False) w3 (.cells (mc (.int .u64 0) 1 ol) 31)).at HR3.out id
    have c11 : (w3.alloc (.cells (mc (.int .u64 0) 1 ol) 31)).cell? ⟨RB, 11, none⟩ = some (.slice none 0 0) := cell_of _ _ 11 _ _ hr4
    have f11 : (w3.alloc (.cells (mc (.int .u64 0) 1 ol) 31)).frozen? ⟨RB, 11, none⟩ = false := free_of _ _ 11 _ _ hr4
    have hr5 := res_set11 hr4 (.slice (some ⟨w3.heap.size, 0, none⟩) ol ol)
    have HW5 : Hid (((w3.alloc (.cells (mc (.int .u64 0) 1 ol) 31)).setCell ⟨RB, 11, none⟩ (.slice (some ⟨w3.heap.size, 0, none⟩) ol ol)).heap[RB]? = some (.cells (resC T Cm Ab Un Se Rg true (.slice (some ⟨w3.heap.size, 0, none⟩) ol ol) (.slice none 0 0) (.slice aa an ac)) 41) ∧ Keep (fun b => b = RB ∨ b = G) w ((w3.alloc (.cells (mc (.int .u64 0) 1 ol) 31)).setCell ⟨RB, 11, none⟩ (.slice (some ⟨w3.heap.size, 0, none⟩) ol ol)) ∧ Row ((w3.alloc (.cells (mc (.int .u64 0) 1 ol) 31)).setCell ⟨RB, 11, none⟩ (.slice (some ⟨w3.heap.size, 0, none⟩) ol ol)) OB ol (fun i => .int .i64 (f i : Int)) ∧ (∃ y : Nat → Int, Row ((w3.alloc (.cells (mc (.int .u64 0) 1 ol) 31)).setCell ⟨RB, 11, none⟩ (.slice (some ⟨w3.heap.size, 0, none⟩) ol ol)) w3.heap.size ol (fun i => .int .u64 (y i))) ∧ w3.heap.size < ((w3.alloc (.cells (mc (.int .u64 0) 1 ol) 31)).setCell ⟨RB, 11, none⟩ (.slice (some ⟨w3.heap.size, 0, none⟩) ol ol)).heap.size ∧ RB < w3.heap.size ∧ OB < w3.heap.size ∧ w.heap.size ≤ w3.heap.size) := by
      have ka := Keep.alloc (fun _ => False) w3 (.cells (mc (.int .u64 0) 1 ol) 31)
      have ea := heap_alloc_new w3 (.cells (mc (.int .u64 0) 1 ol) 31)
      have ks := Keep.setCell (w3.alloc (.cells (mc (.int .u64 0) 1 ol) 31)) ⟨RB, 11, none⟩ (.slice (some ⟨w3.heap.size, 0, none⟩) ol ol)
      have hb := heap_lt HR3.out
      have hb0 := heap_lt HRES.out
      have ho := HO3.out.2
      have hl := heap_lt ea
      exact ⟨hr5, (HK3.out.trans ka (fun _ q => q.elim)).trans ks (fun b q => .inl (.inl q)), (HO3.out.1.keep (ka.block OB ho id)).keep (ks.block OB (Nat.lt_of_lt_of_le ho ka.size) (by show ¬ OB = RB; omega)), ⟨fun _ => 0, (Row.made1 _ _ ol (.int .u64 0) 31 rfl ea).keep (ks.block w3.heap.size hl (by show ¬ w3.heap.size = RB; omega))⟩, Nat.lt_of_lt_of_le hl ks.size, hb, ho, HK3.out.size⟩
    clear hr4 hr5 HR3 HO3
    go_upto_region 7 with fail
    clear c11 f11 r38
    generalize (w3.alloc (.cells (mc (.int .u64 0) 1 ol) 31)).setCell ⟨RB, 11, none⟩ (.slice (some ⟨w3.heap.size, 0, none⟩) ol ol) = w5 at *
    generalize w3.heap.size = NA at *
    go_wp2
    go_loopg [47] ol (fun gk s wr => ∃ i : Nat, i ≤ ol ∧ s = .int .i64 (i : Int) ∧ gk = ol - i ∧ Hid (Keep (fun b => b = NA) w5 wr ∧ ∃ y : Nat → Int, Row wr NA ol (fun i => .int .u64 (y i))))
    case atStart => exact ⟨0, Nat.zero_le _, rfl, rfl, Keep.refl _ _, HW5.out.2.2.2.1⟩
    case round =>
      obtain ⟨i, hi, rfl, rfl, HR⟩ := hrel
      obtain ⟨w6, rfl⟩ : ∃ w6, w6 = wr := ⟨_, rfl⟩
      obtain ⟨hw1, hw2, hw3, _, hw4, hw5, hw6, hw7⟩ := HW5.out
      by_cases hlt : i < ol
      · have i1 : (i : Int) < (ol : Int) := by omega
        have i2 : (i : Int).toNat = i := by omega
        have i3 : (ol : Int) ≤ 5 := by omega
        obtain ⟨k6, y, hy⟩ := HR.out
        have eo := (hw3.keep (k6.block OB (by omega) (by show ¬ OB = NA; omega))).cell i hlt
        have c11 : w6.cell? ⟨RB, 11, none⟩ = some (.slice (some ⟨NA, 0, none⟩) ol ol) := cell_of _ _ 11 _ _ (k6.at hw1 (by show ¬ RB = NA; omega))
        obtain ⟨TX, rfl, hTXl, hTXr, _, hTXG, hTXR⟩ := HTX.out (by omega)
        have k06 : Keep (fun b => (b = RB ∨ b = G) ∨ b = NA) w w6 := (hw2.wide (fun b q => .inl q)).trans k6 (fun b q => .inl (.inr q))
        have hfi := HF.out i hlt
        have et := (hTXr.keep (k06.block TX hTXl (by rintro ((q | q) | q) <;> omega))).cell (f i) hfi
        have g1 : (f i : Int) < (n : Int) := by omega
        have g2 : (f i : Int).toNat = f i := by omega
        have ey := hy.cell i hlt
        have fy := hy.free i
        have HN : Hid (Keep (fun b => b = NA) w5 (w6.setCell ⟨NA, i, none⟩ (.int .u64 (tx (f i)))) ∧ ∃ y : Nat → Int, Row (w6.setCell ⟨NA, i, none⟩ (.int .u64 (tx (f i)))) NA ol (fun i => .int .u64 (y i))) := by
          refine ⟨k6.trans (Keep.setCell _ _ _) (fun b q => .inl q), fun j => if j = i then tx (f i) else y j, (hy.set i _ hlt).congr (fun j _ => ?_)⟩
          by_cases e : j = i <;> simp [e]
        clear hw1 hw2 hw3 hw4 hw5 hw6 hw7 k6 hy k06 hTXr HR
        go_upto_region 10 with fail
        go_big_region
        have HN2 : Hid (Keep (fun b => b = NA) w5 (w6.setCell ⟨NA, i, none⟩ (.int .u64 (tx (f i)))).drew ∧ ∃ y : Nat → Int, Row (w6.setCell ⟨NA, i, none⟩ (.int .u64 (tx (f i)))).drew NA ol (fun i => .int .u64 (y i))) := ⟨HN.out.1.drew, by obtain ⟨y, r⟩ := HN.out.2; exact ⟨y, r.keep rfl⟩⟩
        clear HN eo c11 et ey fy
        generalize (w6.setCell ⟨NA, i, none⟩ (.int .u64 (tx (f i)))).drew = w7 at *
        go_wp2
        go_roundg (ol - (i + 1))
        case measure => omega
        case rel => exact ⟨i + 1, by omega, by go_num, rfl, HN2⟩
      · obtain rfl : ol = i := by omega
        have q4 : ¬ (ol : Int) < (ol : Int) := by omega
        have HFin : Hid (SetOut w w6 RB G D0 aa T Cm Ab Un Se Rg) := by
          obtain ⟨k6, _⟩ := HR.out
          have k06 : Keep (fun b => b = RB ∨ b = G) w w6 := hw2.trans k6 (fun b q => .inr (by have : b = NA := q; omega))
          exact ⟨⟨_, _, _, _, k6.at hw1 (by show ¬ RB = NA; omega)⟩, k06.wide (fun b q => q.elim .inl (fun q => .inr (.inl q)))⟩
        clear HR hw1 hw2 hw3 hw4 hw5 hw6 hw7
        go_wp2
        refine bodyPost_ret (results_none rfl _ _ _) rfl ?_
        exact ⟨rfl, HFin.out⟩
  · obtain ⟨E2, la2, lc2, FB, NX, KN, first, next, kd2, hgl2, hE2, hFB, hNX, hKN⟩ := hgl
    have hRB := heap_lt HRES.out
    have k3 := Keep.setCell w2 ⟨RB, 7, none⟩ (.bool false)
    have hgR : ∀ b, ga = some ⟨b, 0, none⟩ → ¬ b = RB := fun b e q => hgl2.vg.off HR2.out (by decide) (by rw [e, q])
    have HGR : Hid _ := hgR
    have hgl3 := hgl2.keep k3 (fun q => hGR q.symm) hgR (by show ¬ FB = RB; omega) (by show ¬ NX = RB; omega) (by show ¬ KN = RB; omega)
    have HR3 : Hid _ := res_set7 HR2.out false
    have HK3 : Hid (Keep (fun b => b = RB ∨ b = G) w (w2.setCell ⟨RB, 7, none⟩ (.bool false))) := (HK2.out.wide (fun b q => .inr q)).trans k3 (fun b q => .inl (.inl q))
    have HGL3 : Hid _ := hgl3
    clear hgl2 hgl3 k3 hgR
    go_upto_region 12 with fail
    clear c5 c7 f7
    generalize w2.setCell ⟨RB, 7, none⟩ (.bool false) = w3 at *
    have HC := fun (_ : Unit) => (components_any G n E2 la2 lc2 ga gc FB NX KN vnil first next kd2 63 false (.slice none 0 0) 0 (fun _ => false) w3 HGL3.out (.inl ⟨rfl, rfl⟩) hn hE2 ⟨by omega, by omega, by omega⟩ (.inl rfl) (.inl rfl)).mono (fun e w' h => (h : CompOut w3 w' G n E2 la2 lc2 ga gc FB NX KN vnil first next kd2 false 63 e))
    go_upto_region 13 with (go_at_call 68; refine (HC ()).mono ?_; clear HC; rintro e w4 ⟨CO, comp, rfl, hco1, hco2, hco3, hco4, hco5, ah, ok, hgl4, hah4, _, _, hgb4, hk4⟩)
    have hr4 := hk4.at HR3.out hGR
    have c9 : w4.cell? ⟨RB, 9, none⟩ = some (.pointer none) := cell_of _ _ 9 _ _ hr4
    have HR4 : Hid _ := hr4
    have HK4 : Hid (Keep (fun b => b = RB ∨ b = G) w w4) := HK3.out.trans hk4 (fun b q => .inl (.inr q))
    have HCO : Hid (Row w4 CO n (fun i => .int .i32 (comp i)) ∧ (∀ i, i < n → -1 ≤ comp i ∧ comp i < n) ∧ Conn n first next kd2 63 comp) := ⟨hco3, hco4, hco5⟩
    have HGL4 : Hid _ := hgl4
    have HAH4 : Hid _ := hah4
    have HGB4 : Hid _ := hgb4
    have hw34 := hk4.size
    have hw03 := HK3.out.size
    clear hr4 hk4 hco3 hco4 hco5 hgl4 hah4 hgb4 HR3 HK3 HGL3
    have HC := fun (_ : Unit) => (cycle_any G n E2 la2 lc2 ga gc FB NX KN ah first next kd2 ok CO n comp 63 w4 hn hn0 hE2 HGL4.out HAH4.out (.inl rfl) HCO.out.1 hco2 HCO.out.2.1 HCO.out.2.2).mono (fun e w' h => (by
      rcases h with ⟨rfl | ⟨m, A, B, d1, d2, f, d, h1, h2, rfl, h3, h4, h5, h6, h7, h8, h9, h10⟩, k⟩
      · exact ⟨none, 0, 0, _, fun _ => 0, rfl, by omega, fun q => by omega, fun i q => by omega, k⟩
      · exact ⟨_, m, d1, _, f, rfl, h2, fun _ => ⟨A, rfl, h8, h6, h3⟩, h5, k⟩ : ∃ (ca : Option Addr) (m cc : Nat) (s2 : Value) (f : Nat → Nat), e = .returned (.tuple #[.slice ca m cc, s2]) ∧ m ≤ 6 ∧ (0 < m → ∃ A, ca = some ⟨A, 0, none⟩ ∧ A < w'.heap.size ∧ w4.heap.size ≤ A ∧ Row w' A m (fun i => .int .i64 (f i : Int))) ∧ (∀ i, i < m → f i < n) ∧ Hid (Keep (fun _ => False) w4 w')))
    go_upto_region 15 with (go_at_call 69; refine (HC ()).mono ?_; clear HC; rintro e w5 ⟨ca, m, cc, s2, f, rfl, hm6, hca, hfn, HK5⟩)
    clear c9
    have HCA : Hid _ := hca
    have HFN : Hid _ := hfn
    have m1 : (m : Int) ≤ 6 := by omega
    clear hca hfn
    have hw45 := HK5.out.size
    have HL0 : Hid (LC RB T Cm Ab Un Se Rg (.slice aa an ac) w5 0 none 0 w5) := ⟨HK5.out.at HR4.out id, ⟨fun _ _ => .int .u64 0, Vec.nil _ _ _ _⟩, Keep.refl _ _, fun b e => by simp at e⟩
    go_wp2
    go_loopg [78] m (fun gk s wr => ∃ (i : Nat) (ya : Option Addr) (yc : Nat), i ≤ m ∧ s = .int .i64 (i : Int) ∧ gk = m - i ∧ Hid (LC RB T Cm Ab Un Se Rg (.slice aa an ac) w5 i ya yc wr))
    case atStart => exact ⟨0, none, 0, Nat.zero_le _, rfl, rfl, HL0⟩
    case round =>
      clear HL0
      obtain ⟨i, ya, yc, hi, rfl, rfl, HL⟩ := hrel
      obtain ⟨w6, rfl⟩ : ∃ w6, w6 = wr := ⟨_, rfl⟩
      by_cases hlt : i < m
      · as_aux_lemma =>
        have i1 : (i : Int) < (m : Int) := by omega
        have i2 : (i : Int).toNat = i := by omega
        obtain ⟨A, rfl, hA1, hA2, hA3⟩ := HCA.out (by omega)
        obtain ⟨TX, rfl, hTXl, hTXr, _, hTXG, hTXR⟩ := HTX.out (by omega)
        have hfi := HFN.out i hlt
        have g1 : (f i : Int) < (n : Int) := by omega
        have g2 : (f i : Int).toNat = f i := by omega
        have eA := (hA3.keep (HL.out.k.block A hA1 (by show ¬ A = RB; omega))).cell i hlt
        have k06 : Keep (fun b => b = RB ∨ b = G) w w6 := (HK4.out.trans HK5.out (fun _ q => q.elim)).trans HL.out.k (fun b q => .inl (.inl q))
        have eT := (hTXr.keep (k06.block TX hTXl (by rintro (q | q); exact hTXR q; exact hTXG q))).cell (f i) hfi
        have c12 : w6.cell? ⟨RB, 12, none⟩ = some (.slice ya i yc) := cell_of _ _ 12 _ _ HL.out.res
        obtain ⟨z, hz⟩ := HL.out.v
        have ka := Keep.alloc (fun _ => False) w6 (.cells #[.int .u64 (tx (f i))] 31)
        have c12a := (ka.cell ⟨RB, 12, none⟩ (heap_lt HL.out.res) id).trans c12
        obtain ⟨g7, cap7, w7, hr7, hv7, hk7, hg7, hl7⟩ := run_push (w6.alloc (.cells #[.int .u64 (tx (f i))] 31)).drew 38 31 38 1 8 _ Ybaz.underlying38 inf31 rfl Nat.one_pos (by decide) ya i yc _ ((hz.alloc (.cells #[.int .u64 (tx (f i))] 31)).keep ((Keep.refl (fun _ => False) _).drew) (fun _ _ q => q)) ⟨w6.heap.size, 0, none⟩ 1 (fun _ => .int .u64 (tx (f i))) (new1 w6 _ 31) (fun _ _ => rfl) (by omega)
        obtain ⟨hl8, hr8⟩ := HL.out.push (by omega) (.cells #[.int .u64 (tx (f i))] 31) hv7 hk7 (or2 hg7 id (fun e => by rw [e]; exact ka.size))
        have c7 : w7.cell? ⟨RB, 12, none⟩ = some (.slice ya i yc) := cell_of _ _ 12 _ _ hr8
        have f7 : w7.frozen? ⟨RB, 12, none⟩ = false := free_of _ _ 12 _ _ hr8
        have HL8 : Hid _ := hl8
        clear hl8 hr8 hv7 hk7 hg7 hl7 hz ka k06 hTXr hA3 HL
        go_upto_region 18 with fail
        go_big_region
        clear c7 f7 c12 c12a eA eT hr7
        generalize w7.setCell ⟨RB, 12, none⟩ (.slice (some ⟨g7, 0, none⟩) (i + 1) cap7) = w8 at *
        go_wp2
        go_roundg (m - (i + 1))
        case measure => omega
        case rel => exact ⟨i + 1, some ⟨g7, 0, none⟩, cap7, by omega, by go_num, rfl, HL8⟩
      · obtain rfl : m = i := by omega
        have q4 : ¬ (m : Int) < (m : Int) := by omega
        go_upto_region 20 with fail
        obtain ⟨TX, rfl, hTXl, hTXr, hTXD, hTXG, hTXR⟩ := HTX.out hn0
        obtain ⟨w7, hw7⟩ : ∃ w7, w7 = w6.drew := ⟨_, rfl⟩
        have k67 : Keep (fun _ => False) w6 w7 := by rw [hw7]; exact (Keep.refl _ _).drew
        have k57 : Keep (fun b => b = RB) w5 w7 := HL.out.k.trans k67 (fun _ q => q.elim)
        have k47 : Keep (fun b => b = RB) w4 w7 := (HK5.out.wide (fun _ q => q.elim)).trans k57 (fun b q => .inl q)
        have k07 : Keep (fun b => b = RB ∨ b = G) w w7 := HK4.out.trans k47 (fun b q => .inl (.inl q))
        have hr7 := k67.at HL.out.res id
        have hD0 : ∀ b, w.heap.size ≤ b → ¬ D0 b := fun b q r => by have := HDl.out b r; omega
        have hgv : ∀ b, gBlk G ga FB NX KN n vnil b → ¬ D0 b ∧ b ≠ RB := fun b q => by
          rcases q with q | q | q | q | q | q
          · subst q; exact ⟨HDG.out.1, fun e => hGR e.symm⟩
          · exact ⟨HDG.out.2.1 b q, HGR.out b q⟩
          · exact ⟨hD0 b (by omega), by omega⟩
          · exact ⟨hD0 b (by omega), by omega⟩
          · exact ⟨hD0 b (by omega), by omega⟩
          · unfold vnil at q; injection q with q; cases q
        have hga : ∀ b, gBlk G ga FB NX KN n ah b → ¬ D0 b ∧ b ≠ RB := fun b q => by
          rcases HGB4.out b q with r | r
          · exact hgv b r
          · exact ⟨hD0 b (by omega), by omega⟩
        have hgl7 := HGL4.out.keepB k47 (fun b q => (hga b q).2)
        have hah7 := Ah.keep HAH4.out k47 (fun b q => (hga b (.inr (.inr (.inr (.inr (.inr q)))))).2)
        have hde7 := HDE.out none w w7 D0 HD.out (k07.wide (fun b q r => by
          rcases q with q | q
          · rw [q] at r; exact HDG.out.2.2.1 r
          · rw [q] at r; exact HDG.out.1 r))
        have hw47 := k47.size
        have HC := fun (_ : Unit) => cycA_any DE p1 p2 p3 p4 p5 p6 G n E2 la2 lc2 ga gc FB NX KN first next kd2 TX tc tx CO comp D0 ah ok w7 (HDP.out hn0) HDE.out hde7 hn hn0 hE2 hgl7 hah7 ⟨by omega, by omega, by omega⟩ (hTXr.keep (k07.block TX hTXl (by rintro (q | q); exact hTXR q; exact hTXG q))) (Nat.lt_of_lt_of_le hTXl k07.size) (HCO.out.1.keep (k47.block CO hco2 (by show ¬ CO = RB; omega))) (Nat.lt_of_lt_of_le hco2 k47.size) HCO.out.2.1 (fun b q => by
          rcases q with q | q | q
          · exact (hga b q).1
          · rw [q]; exact hTXD
          · exact hD0 b (by omega)) (fun b q => Nat.lt_of_lt_of_le (HDl.out b q) k07.size) ⟨fun e => hTXG e.symm, by omega⟩
        have hva : Vec w7 157 4 aa an ac F := HAV.out.keep k07 (fun b e q => by
          rcases q with q | q
          · exact HAV.out.off HRES.out (by decide) (by rw [e, q])
          · exact HAV.out.off HGBk.out (by decide) (by rw [e, q]))
        have c13 : w7.cell? ⟨RB, 13, none⟩ = some (.slice aa an ac) := cell_of _ _ 13 _ _ hr7
        have HVA : Hid _ := hva
        have HR7 : Hid _ := hr7
        have HK07 : Hid _ := k07
        clear hgl7 hah7 hde7 hga hgv hTXr hva hr7 k67 k57 k47 k07
        refine wp_region_held_drew (S := (fun _ => True)) (by kernel_rfl) trivial (fun hHeld => ?_)
        refine wpAnyH_take (i := 0) (oi := ?_) (v := ?_) (by simp only [List.getElem?_toArray, List.getElem?_cons_zero]; rfl) (by kernel_rfl) (by kernel_rfl) (by kernel_rfl) (by exact fun _ _ _ h => h) (Or.inl ⟨by rfl, ?_⟩) (by assumption) ?_; rotate_left; (focus (intro w hSw; (try dsimp only at hSw); first | (go_simp; done) | (go_simp; with_reducible rfl))); try simp only [Act.put, List.setIfInBounds_toArray, List.set_cons_zero, List.set_cons_succ]
        refine wpAnyH_take (i := 1) (oi := ?_) (v := ?_) (by simp only [List.getElem?_toArray, List.getElem?_cons_succ, List.getElem?_cons_zero]; rfl) (by kernel_rfl) (by kernel_rfl) (by kernel_rfl) (by exact fun _ _ _ h => h) (Or.inl ⟨by rfl, ?_⟩) (by assumption) ?_; rotate_left; (focus (intro w hSw; (try dsimp only at hSw); first | (go_simp; done) | (go_simp; with_reducible rfl))); try simp only [Act.put, List.setIfInBounds_toArray, List.set_cons_zero, List.set_cons_succ]
        refine wpAnyH_take (i := 2) (oi := ?_) (v := ?_) (by simp only [List.getElem?_toArray, List.getElem?_cons_succ, List.getElem?_cons_zero]; rfl) (by kernel_rfl) (by kernel_rfl) (by kernel_rfl) (by exact fun _ _ _ h => h) (Or.inl ⟨by rfl, ?_⟩) (by assumption) ?_; rotate_left; (focus (intro w hSw; (try dsimp only at hSw); first | (go_simp; done) | (go_simp; with_reducible rfl))); try simp only [Act.put, List.setIfInBounds_toArray, List.set_cons_zero, List.set_cons_succ]
        refine wpAnyH_take (i := 3) (oi := ?_) (v := ?_) (by simp only [List.getElem?_toArray, List.getElem?_cons_succ, List.getElem?_cons_zero]; rfl) (by kernel_rfl) (by kernel_rfl) (by kernel_rfl) (by exact fun _ _ _ h => h) (Or.inl ⟨by rfl, ?_⟩) (by assumption) ?_; rotate_left; (focus (intro w hSw; (try dsimp only at hSw); first | (go_simp; done) | (go_simp; with_reducible rfl))); try simp only [Act.put, List.setIfInBounds_toArray, List.set_cons_zero, List.set_cons_succ]
        refine wpAnyH_take (i := 5) (oi := ?_) (v := ?_) (by simp only [List.getElem?_toArray, List.getElem?_cons_succ, List.getElem?_cons_zero]; rfl) (by kernel_rfl) (by kernel_rfl) (by kernel_rfl) (by exact fun _ _ _ h => h) (Or.inl ⟨by rfl, ?_⟩) (by assumption) ?_; rotate_left; (focus (intro w hSw; (try dsimp only at hSw); first | (go_simp; done) | (go_simp; with_reducible rfl))); try simp only [Act.put, List.setIfInBounds_toArray, List.set_cons_zero, List.set_cons_succ]
        refine wpAnyH_take (i := 6) (oi := ?_) (v := ?_) (by simp only [List.getElem?_toArray, List.getElem?_cons_succ, List.getElem?_cons_zero]; rfl) (by kernel_rfl) (by kernel_rfl) (by kernel_rfl) (by exact fun _ _ _ h => h) (Or.inl ⟨by rfl, ?_⟩) (by assumption) ?_; rotate_left; (focus (intro w hSw; (try dsimp only at hSw); first | (go_simp; done) | (go_simp; with_reducible rfl))); try simp only [Act.put, List.setIfInBounds_toArray, List.set_cons_zero, List.set_cons_succ]
        refine wpAnyH_take (i := 7) (oi := ?_) (v := ?_) (by simp only [List.getElem?_toArray, List.getElem?_cons_succ, List.getElem?_cons_zero]; rfl) (by kernel_rfl) (by kernel_rfl) (by kernel_rfl) (by exact fun _ _ _ h => h) (Or.inl ⟨by rfl, ?_⟩) (by assumption) ?_; rotate_left; (focus (intro w hSw; (try dsimp only at hSw); first | (go_simp; done) | (go_simp; with_reducible rfl))); try simp only [Act.put, List.setIfInBounds_toArray, List.set_cons_zero, List.set_cons_succ]
        refine wpAnyH_take (i := 8) (oi := ?_) (v := ?_) (by simp only [List.getElem?_toArray, List.getElem?_cons_succ, List.getElem?_cons_zero]; rfl) (by kernel_rfl) (by kernel_rfl) (by kernel_rfl) (by exact fun _ _ _ h => h) (Or.inl ⟨by rfl, ?_⟩) (by assumption) ?_; rotate_left; (focus (intro w hSw; (try dsimp only at hSw); first | (go_simp; done) | (go_simp; with_reducible rfl))); try simp only [Act.put, List.setIfInBounds_toArray, List.set_cons_zero, List.set_cons_succ]
        rw [← hw7]
        clear hw7 hHeld
        refine wpAnyH_ready (rs := [4, 9]) (by kernel_rfl) (by simp) ?_
        refine (AllReadyH.cons (o := ?_) (by simp only [List.getElem?_toArray, List.getElem?_cons_succ, List.getElem?_cons_zero]; rfl) (fun K hK => ?_) (AllReadyH.cons (o := ?_) (by simp only [List.getElem?_toArray, List.getElem?_cons_succ, List.getElem?_cons_zero]; rfl) (fun K hK => ?_) AllReadyH.nil))
        · go_simp
          refine hK.out _ _ trivial (fun hHeldL => ?_)
          clear hK K
          try simp only [Act.put, List.setIfInBounds_toArray, List.set_cons_zero, List.set_cons_succ]
          refine wpAnyH_ready (rs := [9]) (by kernel_rfl) (by simp) ?_
          refine AllReadyH.cons (o := ?_) (by simp only [List.getElem?_toArray, List.getElem?_cons_succ, List.getElem?_cons_zero]; rfl) (fun K hK => ?_) AllReadyH.nil
          go_simp
          go_at_call 70
          refine (HC ()).mono ?_
          rintro e w8 ⟨fa, fl, fc, F2, rfl, hca2, hca3, hca4, hca5, hca6⟩
          dsimp only
          refine hK.out _ _ trivial (fun hHeldC => ?_)
          clear hK K
          try simp only [Act.put, List.setIfInBounds_toArray, List.set_cons_zero, List.set_cons_succ]
          have c13d := hca6.cell ⟨RB, 13, none⟩ (heap_lt HR7.out) (by rintro (q | q); exact hGR q; exact HDG.out.2.2.1 q)
          clear c13d
          have k08 : Keep (fun b => b = RB ∨ b = G ∨ D0 b) w w8 := (HK07.out.wide (fun b q => q.elim .inl (fun q => .inr (.inl q)))).trans hca6 (fun b q => .inl (.inr q))
          have hr8 := hca6.at HR7.out (by rintro (q | q); exact hGR q; exact HDG.out.2.2.1 q)
          have hva8 : Vec w8 157 4 aa an ac F := HVA.out.keep hca6 (fun b e q => by
            rcases q with q | q
            · exact HAV.out.off HGBk.out (by decide) (by rw [e, q])
            · exact HDG.out.2.2.2 b e q)
          obtain ⟨a9, cap9, w9, hr9, hv9, hk9, hn9⟩ := run_joinK w8 39 157 39 4 64 _ Ybaz.underlying39 inf157 rfl (by decide) (by decide) aa an ac F hva8 fa fl fc F2 hca2 (fun i c hi hc => by
            obtain ⟨x, pp, a1, b1, n1, c1, n2, c2, _, _, e0, e1, e2, e3⟩ := hca3 i hi
            have hc4 : c = 0 ∨ c = 1 ∨ c = 2 ∨ c = 3 := by omega
            rcases hc4 with rfl | rfl | rfl | rfl
            · rw [e0]; rfl
            · rw [e1]; rfl
            · rw [e2]; rfl
            · rw [e3]; rfl) (by omega) (by omega)
          have haR : ¬ aa = some ⟨RB, 0, none⟩ := fun e => HAV.out.off HRES.out (by decide) e
          have hr9' := hk9.at hr8 haR
          have c13b : w9.cell? ⟨RB, 13, none⟩ = some (.slice aa an ac) := cell_of _ _ 13 _ _ hr9'
          have f13b : w9.frozen? ⟨RB, 13, none⟩ = false := free_of _ _ 13 _ _ hr9'
          have ks := Keep.setCell w9 ⟨RB, 13, none⟩ (.slice a9 (an + fl) cap9)
          have hr10 := res_set13 hr9' (.slice a9 (an + fl) cap9)
          have k010 : Keep (fun b => b = RB ∨ b = G ∨ D0 b ∨ aa = some ⟨b, 0, none⟩) w (w9.setCell ⟨RB, 13, none⟩ (.slice a9 (an + fl) cap9)) := ((k08.wide (fun b q => q.elim .inl (fun q => q.elim (fun q => .inr (.inl q)) (fun q => .inr (.inr (.inl q)))))).trans hk9 (fun b q => .inl (.inr (.inr (.inr q))))).trans ks (fun b q => .inl (.inl q))
          have hv10 : Vec (w9.setCell ⟨RB, 13, none⟩ (.slice a9 (an + fl) cap9)) 157 4 a9 (an + fl) cap9 (joinF an F F2) := hv9.keep ks (fun b e q => hv9.off hr9' (by decide) (by rw [e]; exact congrArg (fun x => some (⟨x, 0, none⟩ : Addr)) q))
          have HC71 := fun (_ : Unit) => (sortA a9 (an + fl) cap9 (joinF an F F2) (w9.setCell ⟨RB, 13, none⟩ (.slice a9 (an + fl) cap9)) (by omega) hv10 (fun i hi => by
            by_cases q : i < an
            · have e : joinF an F F2 i = F i := by funext d; unfold joinF; rw [if_pos q]
              rw [e]; exact HAO.out i q
            · have e : joinF an F F2 i = F2 (i - an) := by funext d; unfold joinF; rw [if_neg q]
              rw [e]; exact hca3 (i - an) (by omega))).mono (fun e w' h => (⟨h.1, h.2⟩ : e = .returned (.tuple #[]) ∧ Hid (Keep (fun k => a9 = some ⟨k, 0, none⟩) (w9.setCell ⟨RB, 13, none⟩ (.slice a9 (an + fl) cap9)) w')))
          have HN9 : Hid (∀ b, a9 = some ⟨b, 0, none⟩ → b ≠ RB ∧ (aa = some ⟨b, 0, none⟩ ∨ w.heap.size ≤ b)) := fun b e => ⟨fun q => hv9.off hr9' (by decide) (by rw [e, q]), or2 (hn9 b e) id (fun q => by have := k08.size; omega)⟩
          have c13c : (w9.setCell ⟨RB, 13, none⟩ (.slice a9 (an + fl) cap9)).cell? ⟨RB, 13, none⟩ = some (.slice a9 (an + fl) cap9) := cell_of _ _ 13 _ _ hr10
          have HR10 : Hid _ := hr10
          have HK10 : Hid _ := k010
          clear hv10 hr10 k010 ks hr9' hv9 hk9 hn9 hva8 hr8 k08 haR
          refine wpAnyH_ready (rs := [10]) (by kernel_rfl) (by simp) ?_
          refine AllReadyH.cons (o := ?_) (by simp only [List.getElem?_toArray, List.getElem?_cons_succ, List.getElem?_cons_zero]; rfl) (fun K hK => ?_) AllReadyH.nil
          go_simp
          refine hK.out _ _ trivial (fun hHeldA => ?_)
          clear hK K
          try simp only [Act.put, List.setIfInBounds_toArray, List.set_cons_zero, List.set_cons_succ]
          refine wpAnyH_take (i := 11) (oi := ?_) (v := ?_) (by simp only [List.getElem?_toArray, List.getElem?_cons_succ, List.getElem?_cons_zero]; rfl) (by kernel_rfl) (by kernel_rfl) (by kernel_rfl) (by exact fun _ _ _ h => h) (Or.inl ⟨by rfl, ?_⟩) (by assumption) ?_; rotate_left; (focus (intro w hSw; (try dsimp only at hSw); first | (go_simp; done) | (go_simp; with_reducible rfl))); try simp only [Act.put, List.setIfInBounds_toArray, List.set_cons_zero, List.set_cons_succ]
          refine wpAnyH_take (i := 12) (oi := ?_) (v := ?_) (by simp only [List.getElem?_toArray, List.getElem?_cons_succ, List.getElem?_cons_zero]; rfl) (by kernel_rfl) (by kernel_rfl) (by kernel_rfl) (by exact fun _ _ _ h => h) (Or.inl ⟨by rfl, ?_⟩) (by assumption) ?_; rotate_left; (focus (intro w hSw; (try dsimp only at hSw); first | (go_simp; done) | (go_simp; with_reducible rfl))); try simp only [Act.put, List.setIfInBounds_toArray, List.set_cons_zero, List.set_cons_succ]
          refine wpAnyH_ready (rs := [13]) (by kernel_rfl) (by simp) ?_
          refine AllReadyH.cons (o := ?_) (by simp only [List.getElem?_toArray, List.getElem?_cons_succ, List.getElem?_cons_zero]; rfl) (fun K hK => ?_) AllReadyH.nil
          go_simp
          refine hK.out _ _ trivial (fun hHeldS => ?_)
          clear hK K
          try simp only [Act.put, List.setIfInBounds_toArray, List.set_cons_zero, List.set_cons_succ]
          refine wpAnyH_done (by kernel_rfl) ?_ _
          clear c13b f13b hr9
          generalize w9.setCell ⟨RB, 13, none⟩ (.slice a9 (an + fl) cap9) = w10 at *
          go_wp2_with (go_at_call 71; refine (HC71 ()).mono ?_; rintro e w11 ⟨rfl, HK11⟩)
          go_end0
          refine ⟨rfl, ⟨_, _, _, _, HK11.out.at HR10.out (fun e => (HN9.out RB e).1 rfl)⟩, HK10.out.trans HK11.out (fun b e => ?_)⟩
          rcases (HN9.out b e).2 with q | q
          · exact .inl (.inr (.inr (.inr q)))
          · exact .inr q
        · go_simp
          go_at_call 70
          refine (HC ()).mono ?_
          rintro e w8 ⟨fa, fl, fc, F2, rfl, hca2, hca3, hca4, hca5, hca6⟩
          dsimp only
          refine hK.out _ _ trivial (fun hHeldC => ?_)
          clear hK K
          try simp only [Act.put, List.setIfInBounds_toArray, List.set_cons_zero, List.set_cons_succ]
          have c13d := (hca6.cell ⟨RB, 13, none⟩ (heap_lt HR7.out) (by rintro (q | q); exact hGR q; exact HDG.out.2.2.1 q)).trans c13
          refine wpAnyH_ready (rs := [4]) (by kernel_rfl) (by simp) ?_
          refine AllReadyH.cons (o := ?_) (by simp only [List.getElem?_toArray, List.getElem?_cons_succ, List.getElem?_cons_zero]; rfl) (fun K hK => ?_) AllReadyH.nil
          go_simp
          refine hK.out _ _ trivial (fun hHeldL => ?_)
          clear hK K
          try simp only [Act.put, List.setIfInBounds_toArray, List.set_cons_zero, List.set_cons_succ]
          clear c13d
          have k08 : Keep (fun b => b = RB ∨ b = G ∨ D0 b) w w8 := (HK07.out.wide (fun b q => q.elim .inl (fun q => .inr (.inl q)))).trans hca6 (fun b q => .inl (.inr q))
          have hr8 := hca6.at HR7.out (by rintro (q | q); exact hGR q; exact HDG.out.2.2.1 q)
          have hva8 : Vec w8 157 4 aa an ac F := HVA.out.keep hca6 (fun b e q => by
            rcases q with q | q
            · exact HAV.out.off HGBk.out (by decide) (by rw [e, q])
            · exact HDG.out.2.2.2 b e q)
          obtain ⟨a9, cap9, w9, hr9, hv9, hk9, hn9⟩ := run_joinK w8 39 157 39 4 64 _ Ybaz.underlying39 inf157 rfl (by decide) (by decide) aa an ac F hva8 fa fl fc F2 hca2 (fun i c hi hc => by
            obtain ⟨x, pp, a1, b1, n1, c1, n2, c2, _, _, e0, e1, e2, e3⟩ := hca3 i hi
            have hc4 : c = 0 ∨ c = 1 ∨ c = 2 ∨ c = 3 := by omega
            rcases hc4 with rfl | rfl | rfl | rfl
            · rw [e0]; rfl
            · rw [e1]; rfl
            · rw [e2]; rfl
            · rw [e3]; rfl) (by omega) (by omega)
          have haR : ¬ aa = some ⟨RB, 0, none⟩ := fun e => HAV.out.off HRES.out (by decide) e
          have hr9' := hk9.at hr8 haR
          have c13b : w9.cell? ⟨RB, 13, none⟩ = some (.slice aa an ac) := cell_of _ _ 13 _ _ hr9'
          have f13b : w9.frozen? ⟨RB, 13, none⟩ = false := free_of _ _ 13 _ _ hr9'
          have ks := Keep.setCell w9 ⟨RB, 13, none⟩ (.slice a9 (an + fl) cap9)
          have hr10 := res_set13 hr9' (.slice a9 (an + fl) cap9)
          have k010 : Keep (fun b => b = RB ∨ b = G ∨ D0 b ∨ aa = some ⟨b, 0, none⟩) w (w9.setCell ⟨RB, 13, none⟩ (.slice a9 (an + fl) cap9)) := ((k08.wide (fun b q => q.elim .inl (fun q => q.elim (fun q => .inr (.inl q)) (fun q => .inr (.inr (.inl q)))))).trans hk9 (fun b q => .inl (.inr (.inr (.inr q))))).trans ks (fun b q => .inl (.inl q))
          have hv10 : Vec (w9.setCell ⟨RB, 13, none⟩ (.slice a9 (an + fl) cap9)) 157 4 a9 (an + fl) cap9 (joinF an F F2) := hv9.keep ks (fun b e q => hv9.off hr9' (by decide) (by rw [e]; exact congrArg (fun x => some (⟨x, 0, none⟩ : Addr)) q))
          have HC71 := fun (_ : Unit) => (sortA a9 (an + fl) cap9 (joinF an F F2) (w9.setCell ⟨RB, 13, none⟩ (.slice a9 (an + fl) cap9)) (by omega) hv10 (fun i hi => by
            by_cases q : i < an
            · have e : joinF an F F2 i = F i := by funext d; unfold joinF; rw [if_pos q]
              rw [e]; exact HAO.out i q
            · have e : joinF an F F2 i = F2 (i - an) := by funext d; unfold joinF; rw [if_neg q]
              rw [e]; exact hca3 (i - an) (by omega))).mono (fun e w' h => (⟨h.1, h.2⟩ : e = .returned (.tuple #[]) ∧ Hid (Keep (fun k => a9 = some ⟨k, 0, none⟩) (w9.setCell ⟨RB, 13, none⟩ (.slice a9 (an + fl) cap9)) w')))
          have HN9 : Hid (∀ b, a9 = some ⟨b, 0, none⟩ → b ≠ RB ∧ (aa = some ⟨b, 0, none⟩ ∨ w.heap.size ≤ b)) := fun b e => ⟨fun q => hv9.off hr9' (by decide) (by rw [e, q]), or2 (hn9 b e) id (fun q => by have := k08.size; omega)⟩
          have c13c : (w9.setCell ⟨RB, 13, none⟩ (.slice a9 (an + fl) cap9)).cell? ⟨RB, 13, none⟩ = some (.slice a9 (an + fl) cap9) := cell_of _ _ 13 _ _ hr10
          have HR10 : Hid _ := hr10
          have HK10 : Hid _ := k010
          clear hv10 hr10 k010 ks hr9' hv9 hk9 hn9 hva8 hr8 k08 haR
          refine wpAnyH_ready (rs := [10]) (by kernel_rfl) (by simp) ?_
          refine AllReadyH.cons (o := ?_) (by simp only [List.getElem?_toArray, List.getElem?_cons_succ, List.getElem?_cons_zero]; rfl) (fun K hK => ?_) AllReadyH.nil
          go_simp
          refine hK.out _ _ trivial (fun hHeldA => ?_)
          clear hK K
          try simp only [Act.put, List.setIfInBounds_toArray, List.set_cons_zero, List.set_cons_succ]
          refine wpAnyH_take (i := 11) (oi := ?_) (v := ?_) (by simp only [List.getElem?_toArray, List.getElem?_cons_succ, List.getElem?_cons_zero]; rfl) (by kernel_rfl) (by kernel_rfl) (by kernel_rfl) (by exact fun _ _ _ h => h) (Or.inl ⟨by rfl, ?_⟩) (by assumption) ?_; rotate_left; (focus (intro w hSw; (try dsimp only at hSw); first | (go_simp; done) | (go_simp; with_reducible rfl))); try simp only [Act.put, List.setIfInBounds_toArray, List.set_cons_zero, List.set_cons_succ]
          refine wpAnyH_take (i := 12) (oi := ?_) (v := ?_) (by simp only [List.getElem?_toArray, List.getElem?_cons_succ, List.getElem?_cons_zero]; rfl) (by kernel_rfl) (by kernel_rfl) (by kernel_rfl) (by exact fun _ _ _ h => h) (Or.inl ⟨by rfl, ?_⟩) (by assumption) ?_; rotate_left; (focus (intro w hSw; (try dsimp only at hSw); first | (go_simp; done) | (go_simp; with_reducible rfl))); try simp only [Act.put, List.setIfInBounds_toArray, List.set_cons_zero, List.set_cons_succ]
          refine wpAnyH_ready (rs := [13]) (by kernel_rfl) (by simp) ?_
          refine AllReadyH.cons (o := ?_) (by simp only [List.getElem?_toArray, List.getElem?_cons_succ, List.getElem?_cons_zero]; rfl) (fun K hK => ?_) AllReadyH.nil
          go_simp
          refine hK.out _ _ trivial (fun hHeldS => ?_)
          clear hK K
          try simp only [Act.put, List.setIfInBounds_toArray, List.set_cons_zero, List.set_cons_succ]
          refine wpAnyH_done (by kernel_rfl) ?_ _
          clear c13b f13b hr9
          generalize w9.setCell ⟨RB, 13, none⟩ (.slice a9 (an + fl) cap9) = w10 at *
          go_wp2_with (go_at_call 71; refine (HC71 ()).mono ?_; rintro e w11 ⟨rfl, HK11⟩)
          go_end0
          refine ⟨rfl, ⟨_, _, _, _, HK11.out.at HR10.out (fun e => (HN9.out RB e).1 rfl)⟩, HK10.out.trans HK11.out (fun b e => ?_)⟩
          rcases (HN9.out b e).2 with q | q
          · exact .inl (.inr (.inr (.inr q)))
          · exact .inr q
end Go.Proofs.YbulkdvbsGreat

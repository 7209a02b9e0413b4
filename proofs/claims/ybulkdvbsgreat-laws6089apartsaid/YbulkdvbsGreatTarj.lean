/-
  What the search for components keeps, with no Go in sight: the nodes of one component reach one another inside it.
-/
import Derived.Test.YbulkdvbsGreatPath
namespace Go.Proofs.YbulkdvbsGreat

/-- x reaches y inside C, in k steps; at all. -/
def RInN (Ed : Nat → Nat → Prop) (C : Nat → Prop) (x : Nat) : Nat → Nat → Prop
  | 0, y => y = x ∧ C x
  | k + 1, z => ∃ y, RInN Ed C x k y ∧ Ed y z ∧ C z
def RIn (Ed : Nat → Nat → Prop) (C : Nat → Prop) (x y : Nat) : Prop := ∃ k, RInN Ed C x k y
theorem RIn.refl {Ed : Nat → Nat → Prop} {C : Nat → Prop} {x : Nat} (h : C x) : RIn Ed C x x := ⟨0, rfl, h⟩
theorem RIn.tail {Ed : Nat → Nat → Prop} {C : Nat → Prop} {x : Nat} (y z : Nat) (r : RIn Ed C x y) (he : Ed y z) (hc : C z) : RIn Ed C x z := by
  obtain ⟨k, r⟩ := r
  exact ⟨k + 1, y, r, he, hc⟩
theorem RIn.ind {Ed : Nat → Nat → Prop} {C : Nat → Prop} {x : Nat} {P : Nat → Prop} (h0 : C x → P x) (hs : ∀ y z, RIn Ed C x y → Ed y z → C z → P y → P z) {y : Nat} (r : RIn Ed C x y) : P y := by
  obtain ⟨k, r⟩ := r
  have key : ∀ k y, RInN Ed C x k y → P y := by
    intro k
    induction k with
    | zero => intro y h; rw [h.1]; exact h0 h.2
    | succ k ih =>
      intro z h
      obtain ⟨y, h1, h2, h3⟩ := h
      exact hs y z ⟨k, h1⟩ h2 h3 (ih y h1)
  exact key k y r
theorem RIn.mono {Ed : Nat → Nat → Prop} {C D : Nat → Prop} (h : ∀ x, C x → D x) {x y : Nat} (r : RIn Ed C x y) : RIn Ed D x y :=
  RIn.ind (P := fun y => RIn Ed D x y) (fun hc => RIn.refl (h _ hc)) (fun y z _ he hc ih => RIn.tail y z ih he (h _ hc)) r
theorem RIn.trans {Ed : Nat → Nat → Prop} {C : Nat → Prop} {x y z : Nat} (r : RIn Ed C x y) (s : RIn Ed C y z) : RIn Ed C x z :=
  RIn.ind (P := fun z => RIn Ed C x z) (fun _ => r) (fun a b _ he hc ih => RIn.tail a b ih he hc) s
/-- x leads to the node of index l over nodes of the stack whose low is at most l. -/
def LWN (Ed : Nat → Nat → Prop) (St : Nat → Prop) (idx low : Nat → Int) (l : Int) : Nat → Nat → Prop
  | 0, t => St t ∧ idx t = l
  | k + 1, x => ∃ y, St x ∧ low x ≤ l ∧ l ≤ idx x ∧ Ed x y ∧ LWN Ed St idx low l k y
def LW (Ed : Nat → Nat → Prop) (St : Nat → Prop) (idx low : Nat → Int) (l : Int) (x : Nat) : Prop := ∃ k, LWN Ed St idx low l k x
theorem LW.here {Ed : Nat → Nat → Prop} {St : Nat → Prop} {idx low : Nat → Int} {l : Int} (t : Nat) (h1 : St t) (h2 : idx t = l) : LW Ed St idx low l t := ⟨0, h1, h2⟩
theorem LW.step {Ed : Nat → Nat → Prop} {St : Nat → Prop} {idx low : Nat → Int} {l : Int} (x y : Nat) (h1 : St x) (h2 : low x ≤ l) (h3 : l ≤ idx x) (h4 : Ed x y) (h : LW Ed St idx low l y) : LW Ed St idx low l x := by
  obtain ⟨k, h⟩ := h
  exact ⟨k + 1, y, h1, h2, h3, h4, h⟩
theorem LW.ind {Ed : Nat → Nat → Prop} {St : Nat → Prop} {idx low : Nat → Int} {l : Int} {P : Nat → Prop} (h0 : ∀ t, St t → idx t = l → P t) (hs : ∀ x y, St x → low x ≤ l → l ≤ idx x → Ed x y → P y → P x) {x : Nat} (h : LW Ed St idx low l x) : P x := by
  obtain ⟨k, h⟩ := h
  have key : ∀ k x, LWN Ed St idx low l k x → P x := by
    intro k
    induction k with
    | zero => intro x h; exact h0 x h.1 h.2
    | succ k ih =>
      intro x h
      obtain ⟨y, h1, h2, h3, h4, h5⟩ := h
      exact hs x y h1 h2 h3 h4 (ih y h5)
  exact key k x h
theorem LW.mono {Ed : Nat → Nat → Prop} {St St' : Nat → Prop} {idx idx' low low' : Nat → Int} {l : Int} (hS : ∀ x, St x → St' x) (hi : ∀ x, St x → idx' x = idx x) (hl : ∀ x, St x → low' x ≤ low x) {x : Nat} (h : LW Ed St idx low l x) : LW Ed St' idx' low' l x :=
  LW.ind (P := fun x => LW Ed St' idx' low' l x) (fun t h1 h2 => LW.here t (hS t h1) (by rw [hi t h1]; exact h2)) (fun x y h1 h2 h3 h4 ih => LW.step x y (hS x h1) (by have := hl x h1; omega) (by rw [hi x h1]; exact h3) h4 ih) h
theorem LW.cut {Ed : Nat → Nat → Prop} {St : Nat → Prop} {idx low : Nat → Int} {l b : Int} (hc : ∀ y, St y → b ≤ idx y → b ≤ low y) (hl : l < b) {x : Nat} (h : LW Ed St idx low l x) : LW Ed (fun y => St y ∧ idx y < b) idx low l x :=
  LW.ind (P := fun x => LW Ed (fun y => St y ∧ idx y < b) idx low l x) (fun t h1 h2 => LW.here t ⟨h1, by omega⟩ h2) (fun x y h1 h2 h3 h4 ih => by
    refine LW.step x y ⟨h1, ?_⟩ h2 h3 h4 ih
    by_cases q : b ≤ idx x
    · have := hc x h1 q; omega
    · omega) h
theorem LW.reach {Ed : Nat → Nat → Prop} {St : Nat → Prop} {idx low : Nat → Int} {l b : Int} (hb : b ≤ l) {x : Nat} (h : LW Ed St idx low l x) : ∃ t, St t ∧ idx t = l ∧ RIn Ed (fun y => St y ∧ b ≤ idx y) x t := by
  refine LW.ind (P := fun x => ∃ t, St t ∧ idx t = l ∧ RIn Ed (fun y => St y ∧ b ≤ idx y) x t) (fun t h1 h2 => ⟨t, h1, h2, RIn.refl ⟨h1, by omega⟩⟩) (fun x y h1 h2 h3 h4 ih => ?_) h
  obtain ⟨t, i1, i2, i3⟩ := ih
  refine ⟨t, i1, i2, RIn.trans (RIn.tail x y (RIn.refl ⟨h1, by omega⟩) h4 ?_) i3⟩
  clear i1 i2
  have : ∀ {a c}, RIn Ed (fun y => St y ∧ b ≤ idx y) a c → (St a ∧ b ≤ idx a) := by
    intro a c r
    exact RIn.ind (P := fun _ => St a ∧ b ≤ idx a) (fun h => h) (fun _ _ _ _ _ ih => ih) r
  exact this i3

/-- How the search for components stands: stack of sl nodes, path of pl nodes. -/
structure TJ (n : Nat) (Ed : Nat → Nat → Prop) (idx low comp : Nat → Int) (St : Nat → Prop) (sl : Nat) (sk : Nat → Nat) (pl : Nat) (pn : Nat → Nat) (vis c : Nat) : Prop where
  lt : ∀ x, St x → x < n
  stk : ∀ x, St x ↔ ∃ i, i < sl ∧ sk i = x
  inc : ∀ i j, i < j → j < sl → idx (sk i) < idx (sk j)
  rng : ∀ x, x < n → idx x = -1 ∨ (0 ≤ idx x ∧ idx x < vis)
  pos : ∀ x, St x → 0 ≤ idx x
  pst : ∀ i, i < pl → St (pn i)
  pin : ∀ i j, i < j → j < pl → idx (pn i) < idx (pn j)
  ped : ∀ i, i + 1 < pl → Ed (pn i) (pn (i + 1))
  tr : ∀ i, i < pl → ∀ x, St x → idx (pn i) < idx x → ∃ y, St y ∧ idx (pn i) ≤ idx y ∧ idx y < idx x ∧ Ed y x
  lw : ∀ x, St x → low x ≤ idx x ∧ LW Ed St idx low (low x) x
  q : ∀ x, St x → (∀ i, i < pl → pn i ≠ x) → low x < idx x ∧ ∀ i, i < pl → idx (pn i) < idx x → (∀ j, j < pl → idx (pn j) < idx x → j ≤ i) → low (pn i) ≤ low x
  cr : ∀ x, x < n → comp x = -1 ∨ (0 ≤ comp x ∧ comp x < c)
  cst : ∀ x, St x → comp x = -1
  cv : ∀ x, x < n → idx x = -1 → comp x = -1
  cs : ∀ x y, x < n → y < n → 0 ≤ comp x → comp x = comp y → RIn Ed (fun z => comp z = comp x) x y
  nv : vis = num (fun x => idx x ≠ -1) n
  cn : c + sl ≤ vis

theorem TJ.inj {n : Nat} {Ed : Nat → Nat → Prop} {idx low comp : Nat → Int} {St : Nat → Prop} {sl : Nat} {sk : Nat → Nat} {pl : Nat} {pn : Nat → Nat} {vis c : Nat} (h : TJ n Ed idx low comp St sl sk pl pn vis c) (x y : Nat) (hx : St x) (hy : St y) (e : idx x = idx y) : x = y := by
  obtain ⟨i, hi, rfl⟩ := (h.stk x).1 hx
  obtain ⟨j, hj, rfl⟩ := (h.stk y).1 hy
  rcases Nat.lt_trichotomy i j with q | q | q
  · have := h.inc i j q hj; omega
  · rw [q]
  · have := h.inc j i q hi; omega

/-- A node is entered: from the top of the path, or as a root. -/
theorem TJ.enter {n : Nat} {Ed : Nat → Nat → Prop} {idx low comp : Nat → Int} {St : Nat → Prop} {sl : Nat} {sk : Nat → Nat} {pl : Nat} {pn : Nat → Nat} {vis c : Nat} (h : TJ n Ed idx low comp St sl sk pl pn vis c) (v : Nat) (hv : v < n) (hu : idx v = -1) (he : 0 < pl → Ed (pn (pl - 1)) v) :
    TJ n Ed (fun i => if i = v then (vis : Int) else idx i) (fun i => if i = v then (vis : Int) else low i) comp (fun i => i = v ∨ St i) (sl + 1) (fun i => if i = sl then v else sk i) (pl + 1) (fun i => if i = pl then v else pn i) (vis + 1) c := by
  have ns : ∀ x, St x → x ≠ v := fun x hx e => by subst e; have := h.pos x hx; omega
  have ns' : ¬ St v := fun q => ns v q rfl
  have hidx : ∀ x, St x → (if x = v then (vis : Int) else idx x) = idx x := fun x hx => by rw [if_neg (ns x hx)]
  have hb : ∀ x, St x → idx x < vis := fun x hx => by rcases h.rng x (h.lt x hx) with q | q; have := h.pos x hx; omega; exact q.2
  refine ⟨?_, ?_, ?_, ?_, ?_, ?_, ?_, ?_, ?_, ?_, ?_, h.cr, ?_, ?_, h.cs, ?_, ?_⟩
  · rintro x (rfl | hx)
    · exact hv
    · exact h.lt x hx
  · intro x
    constructor
    · rintro (rfl | hx)
      · exact ⟨sl, by omega, if_pos rfl⟩
      · obtain ⟨i, hi, hx⟩ := (h.stk x).1 hx
        exact ⟨i, by omega, by simp only [show ¬ i = sl by omega, if_false]; exact hx⟩
    · rintro ⟨i, hi, hx⟩
      by_cases e : i = sl
      · simp only [e, if_true] at hx; exact .inl hx.symm
      · simp only [e, if_false] at hx; exact .inr ((h.stk x).2 ⟨i, by omega, hx⟩)
  · intro i j hij hj
    have si : St (sk i) := (h.stk _).2 ⟨i, by omega, rfl⟩
    simp only [show ¬ i = sl by omega, if_false]
    rw [hidx _ si]
    by_cases e : j = sl
    · simp only [e, if_true]; exact hb _ si
    · simp only [e, if_false]
      have sj : St (sk j) := (h.stk _).2 ⟨j, by omega, rfl⟩
      rw [hidx _ sj]
      exact h.inc i j hij (by omega)
  · intro x hx
    by_cases e : x = v
    · simp only [e, if_true]; right; omega
    · simp only [e, if_false]
      rcases h.rng x hx with q | q
      · exact .inl q
      · right; omega
  · rintro x (rfl | hx)
    · simp only [if_true]; omega
    · show 0 ≤ (if x = v then (vis : Int) else idx x)
      rw [hidx x hx]; exact h.pos x hx
  · intro i hi
    by_cases e : i = pl
    · left; simp only [e, if_true]
    · right; simp only [e, if_false]; exact h.pst i (by omega)
  · intro i j hij hj
    have si := h.pst i (by omega)
    simp only [show ¬ i = pl by omega, if_false]
    rw [hidx _ si]
    by_cases e : j = pl
    · simp only [e, if_true]; exact hb _ si
    · simp only [e, if_false]
      rw [hidx _ (h.pst j (by omega))]
      exact h.pin i j hij (by omega)
  · intro i hi
    simp only [show ¬ i = pl by omega, if_false]
    by_cases e : i + 1 = pl
    · simp only [e, if_true]
      have := he (by omega)
      rwa [show pl - 1 = i by omega] at this
    · simp only [e, if_false]; exact h.ped i (by omega)
  · intro i hi x hx hlt
    by_cases e : i = pl
    · simp only [e, if_true] at hlt
      rcases hx with rfl | hx
      · simp at hlt
      · rw [hidx x hx] at hlt
        have := hb x hx; omega
    · simp only [e, if_false] at hlt ⊢
      have si := h.pst i (by omega)
      rw [hidx _ si] at hlt ⊢
      rcases hx with rfl | hx
      · have sp := h.pst (pl - 1) (by omega)
        refine ⟨pn (pl - 1), .inr sp, ?_, ?_, he (by omega)⟩
        · rw [hidx _ sp]
          by_cases e2 : i = pl - 1
          · rw [e2]; exact Int.le_refl _
          · exact Int.le_of_lt (h.pin i (pl - 1) (by omega) (by omega))
        · rw [hidx _ sp]; simp only [if_true]; exact hb _ sp
      · rw [hidx x hx] at hlt ⊢
        obtain ⟨y, h1, h2, h3, h4⟩ := h.tr i (by omega) x hx hlt
        exact ⟨y, .inr h1, by rw [hidx y h1]; exact h2, by rw [hidx y h1]; exact h3, h4⟩
  · rintro x (rfl | hx)
    · simp only [if_true]
      exact ⟨Int.le_refl _, .here _ (.inl rfl) (by simp only [if_true])⟩
    · simp only [ns x hx, if_false]
      obtain ⟨h1, h2⟩ := h.lw x hx
      exact ⟨h1, h2.mono (fun y hy => .inr hy) (fun y hy => hidx y hy) (fun y hy => by rw [if_neg (ns y hy)]; exact Int.le_refl _)⟩
  · rintro x (rfl | hx) hp
    · exact absurd (by simp only [if_true]) (hp pl (by omega))
    · obtain ⟨h1, h2⟩ := h.q x hx (fun i hi e => hp i (by omega) (by simp only [show ¬ i = pl by omega, if_false]; exact e))
      simp only [ns x hx, if_false]
      refine ⟨h1, fun i hi hlt hm => ?_⟩
      by_cases e : i = pl
      · simp only [e, if_true] at hlt
        have := hb x hx; omega
      · simp only [e, if_false] at hlt ⊢
        have si := h.pst i (by omega)
        rw [hidx _ si] at hlt
        rw [if_neg (ns _ si)]
        refine h2 i (by omega) hlt (fun j hj hlj => ?_)
        have := hm j (by omega) (by simp only [show ¬ j = pl by omega, if_false]; rw [hidx _ (h.pst j hj)]; exact hlj)
        exact this
  · rintro x (rfl | hx)
    · exact h.cv x hv hu
    · exact h.cst x hx
  · intro x hx e
    by_cases q : x = v
    · subst q; exact h.cv x hv hu
    · simp only [q, if_false] at e; exact h.cv x hx e
  · rw [h.nv]
    exact (num_set v (fun i hi => by simp only [hi, if_false]) (fun q => q hu) (by simp only [if_true]; omega) n hv).symm
  · have := h.cn; omega

/-- An edge from the top of the path back into the stack. -/
theorem TJ.back {n : Nat} {Ed : Nat → Nat → Prop} {idx low comp : Nat → Int} {St : Nat → Prop} {sl : Nat} {sk : Nat → Nat} {pl : Nat} {pn : Nat → Nat} {vis c : Nat} (h : TJ n Ed idx low comp St sl sk (pl + 1) pn vis c) (v : Nat) (hv : St v) (he : Ed (pn pl) v) (l : Int) (hl : l = if idx v < low (pn pl) then idx v else low (pn pl)) :
    TJ n Ed idx (fun i => if i = pn pl then l else low i) comp St sl sk (pl + 1) pn vis c := by
  have hle : ∀ x, (if x = pn pl then l else low x) ≤ low x := fun x => by
    by_cases e : x = pn pl
    · subst e; rw [if_pos rfl, hl]; split <;> omega
    · rw [if_neg e]; exact Int.le_refl _
  have su := h.pst pl (by omega)
  refine ⟨h.lt, h.stk, h.inc, h.rng, h.pos, h.pst, h.pin, h.ped, h.tr, fun x hx => ?_, fun x hx hp => ?_, h.cr, h.cst, h.cv, h.cs, h.nv, h.cn⟩
  · have key : ∀ {m y}, LW Ed St idx low m y → LW Ed St idx (fun i => if i = pn pl then l else low i) m y := fun r => r.mono (fun _ q => q) (fun _ _ => rfl) (fun y _ => hle y)
    obtain ⟨h1, h2⟩ := h.lw x hx
    by_cases e : x = pn pl
    · subst e
      simp only [if_true]
      by_cases q : idx v < low (pn pl)
      · rw [if_pos q] at hl
        refine ⟨by omega, ?_⟩
        refine .step _ v su (by simp only [if_true]; exact Int.le_refl _) (by omega) he (.here v hv hl.symm)
      · rw [if_neg q] at hl
        subst hl
        exact ⟨h1, key h2⟩
    · simp only [e, if_false]
      exact ⟨h1, key h2⟩
  · obtain ⟨h1, h2⟩ := h.q x hx hp
    have e : x ≠ pn pl := fun e => hp pl (by omega) e.symm
    simp only [e, if_false]
    refine ⟨h1, fun i hi hlt hm => ?_⟩
    have := h2 i hi hlt hm
    have := hle (pn i)
    omega

/-- The top of the path is left, and its low is handed to its parent. -/
theorem TJ.leave {n : Nat} {Ed : Nat → Nat → Prop} {idx low comp : Nat → Int} {St : Nat → Prop} {sl : Nat} {sk : Nat → Nat} {pl : Nat} {pn : Nat → Nat} {vis c : Nat} (h : TJ n Ed idx low comp St sl sk (pl + 1) pn vis c) (low' : Nat → Int)
    (hl : low' = if 0 < pl then (fun i => if i = pn (pl - 1) then (if low (pn pl) < low (pn (pl - 1)) then low (pn pl) else low (pn (pl - 1))) else low i) else low) (hne : low (pn pl) ≠ idx (pn pl)) :
    TJ n Ed idx low' comp St sl sk pl pn vis c := by
  have hle : ∀ x, low' x ≤ low x := fun x => by
    rw [hl]
    by_cases e0 : 0 < pl
    · rw [if_pos e0]
      by_cases e : x = pn (pl - 1)
      · subst e; simp only [if_true]; split <;> omega
      · simp only [e, if_false]; exact Int.le_refl _
    · rw [if_neg e0]; exact Int.le_refl _
  have hoth : ∀ x, (0 < pl → x ≠ pn (pl - 1)) → low' x = low x := fun x hx => by
    rw [hl]
    by_cases e0 : 0 < pl
    · rw [if_pos e0]; simp only [hx e0, if_false]
    · rw [if_neg e0]
  have hpar : 0 < pl → low' (pn (pl - 1)) ≤ low (pn pl) := fun e0 => by
    rw [hl, if_pos e0]; simp only [if_true]; split <;> omega
  have su := h.pst pl (by omega)
  have upar : 0 < pl → pn pl ≠ pn (pl - 1) := fun e0 e => by have := h.pin (pl - 1) pl (by omega) (by omega); rw [e] at this; omega
  refine ⟨h.lt, h.stk, h.inc, h.rng, h.pos, fun i hi => h.pst i (by omega), fun i j hij hj => h.pin i j hij (by omega), fun i hi => h.ped i (by omega), fun i hi => h.tr i (by omega), fun x hx => ?_, fun x hx hp => ?_, h.cr, h.cst, h.cv, h.cs, h.nv, h.cn⟩
  · have key : ∀ {m y}, LW Ed St idx low m y → LW Ed St idx low' m y := fun r => r.mono (fun _ q => q) (fun _ _ => rfl) (fun y _ => hle y)
    obtain ⟨h1, h2⟩ := h.lw x hx
    refine ⟨by have := hle x; omega, ?_⟩
    by_cases e : 0 < pl ∧ x = pn (pl - 1)
    · obtain ⟨e0, rfl⟩ := e
      by_cases q : low (pn pl) < low (pn (pl - 1))
      · have e1 : low' (pn (pl - 1)) = low (pn pl) := by rw [hl, if_pos e0]; simp only [if_true, q]
        rw [e1]
        have hed := h.ped (pl - 1) (by omega)
        rw [show pl - 1 + 1 = pl by omega] at hed
        exact .step _ (pn pl) hx (by omega) (by omega) hed (key (h.lw _ su).2)
      · have e1 : low' (pn (pl - 1)) = low (pn (pl - 1)) := by rw [hl, if_pos e0]; simp only [if_true, q, if_false]
        rw [e1]; exact key h2
    · rw [hoth x (fun e0 ex => e ⟨e0, ex⟩)]; exact key h2
  · have xpar : 0 < pl → x ≠ pn (pl - 1) := fun e0 e => hp (pl - 1) (by omega) e.symm
    rw [hoth x xpar]
    by_cases e : x = pn pl
    · subst e
      refine ⟨by have := (h.lw _ su).1; omega, fun i hi hlt hm => ?_⟩
      have hi2 : i = pl - 1 := by
        have := hm (pl - 1) (by omega) (h.pin (pl - 1) pl (by omega) (by omega))
        omega
      subst hi2
      exact hpar (by omega)
    · obtain ⟨h1, h2⟩ := h.q x hx (fun i hi => by
        by_cases ei : i = pl
        · subst ei; exact fun q => e q.symm
        · exact hp i (by omega))
      refine ⟨h1, fun i hi hlt hm => ?_⟩
      by_cases qx : idx (pn pl) < idx x
      · have hi2 : i = pl - 1 := by
          have h3 := h.pin (pl - 1) pl (by omega) (by omega)
          have := hm (pl - 1) (by omega) (by omega)
          omega
        subst hi2
        have h4 := h2 pl (by omega) qx (fun j hj _ => by omega)
        have := hpar (by omega)
        omega
      · have := h2 i (by omega) hlt (fun j hj hlj => by
          by_cases ej : j = pl
          · subst ej; exact absurd hlj qx
          · exact hm j (by omega) hlj)
        have := hle (pn i)
        omega

/-- The top of the path is left, and a component with it. -/
theorem TJ.pop {n : Nat} {Ed : Nat → Nat → Prop} {idx low comp : Nat → Int} {St : Nat → Prop} {sl : Nat} {sk : Nat → Nat} {pl : Nat} {pn : Nat → Nat} {vis c : Nat} (h : TJ n Ed idx low comp St sl sk (pl + 1) pn vis c) (low' : Nat → Int)
    (hl : low' = if 0 < pl then (fun i => if i = pn (pl - 1) then (if low (pn pl) < low (pn (pl - 1)) then low (pn pl) else low (pn (pl - 1))) else low i) else low) (heq : low (pn pl) = idx (pn pl)) (p : Nat) (hp : p < sl) (hpu : sk p = pn pl) (comp' : Nat → Int) (hc1 : ∀ x, St x → idx (pn pl) ≤ idx x → comp' x = c) (hc2 : ∀ x, ¬ (St x ∧ idx (pn pl) ≤ idx x) → comp' x = comp x) :
    TJ n Ed idx low' comp' (fun x => St x ∧ idx x < idx (pn pl)) p sk pl pn vis (c + 1) := by
  have su := h.pst pl (by omega)
  have hlow : low' = low := by
    rw [hl]
    by_cases e0 : 0 < pl
    · rw [if_pos e0]
      funext i
      by_cases e : i = pn (pl - 1)
      · subst e
        have h1 := (h.lw _ (h.pst (pl - 1) (by omega))).1
        have h2 := h.pin (pl - 1) pl (by omega) (by omega)
        rw [if_pos rfl, if_neg (by omega)]
      · rw [if_neg e]
    · rw [if_neg e0]
  rw [hlow]
  clear hl hlow low'
  have offp : ∀ y, St y → idx (pn pl) < idx y → ∀ i, i < pl + 1 → pn i ≠ y := fun y _ hlt i hi e => by
    subst e
    by_cases ei : i = pl
    · subst ei; omega
    · have := h.pin i pl (by omega) (by omega); omega
  have hc : ∀ y, St y → idx (pn pl) ≤ idx y → idx (pn pl) ≤ low y := fun y hy hle => by
    by_cases e : y = pn pl
    · subst e; omega
    · have hlt : idx (pn pl) < idx y := by
        rcases Int.lt_or_eq_of_le hle with q | q
        · exact q
        · exact absurd (h.inj _ _ hy su q.symm) e
      have := (h.q y hy (offp y hy hlt)).2 pl (by omega) hlt (fun j hj _ => by omega)
      omega
  -- from u to everything above
  have down : ∀ k : Nat, ∀ y, St y → idx (pn pl) ≤ idx y → idx y < idx (pn pl) + k → RIn Ed (fun z => St z ∧ idx (pn pl) ≤ idx z) (pn pl) y := by
    intro k
    induction k with
    | zero => intro y _ h1 h2; omega
    | succ k ih =>
      intro y hy h1 h2
      by_cases e : y = pn pl
      · subst e; exact .refl ⟨su, Int.le_refl _⟩
      · have hlt : idx (pn pl) < idx y := by
          rcases Int.lt_or_eq_of_le h1 with q | q
          · exact q
          · exact absurd (h.inj _ _ hy su q.symm) e
        obtain ⟨z, z1, z2, z3, z4⟩ := h.tr pl (by omega) y hy hlt
        exact .tail z y (ih z z1 z2 (by omega)) z4 ⟨hy, h1⟩
  have up : ∀ k : Nat, ∀ y, St y → idx (pn pl) ≤ idx y → idx y < idx (pn pl) + k → RIn Ed (fun z => St z ∧ idx (pn pl) ≤ idx z) y (pn pl) := by
    intro k
    induction k with
    | zero => intro y _ h1 h2; omega
    | succ k ih =>
      intro y hy h1 h2
      by_cases e : y = pn pl
      · subst e; exact .refl ⟨su, Int.le_refl _⟩
      · have hlt : idx (pn pl) < idx y := by
          rcases Int.lt_or_eq_of_le h1 with q | q
          · exact q
          · exact absurd (h.inj _ _ hy su q.symm) e
        have hq := (h.q y hy (offp y hy hlt)).1
        have hb := hc y hy h1
        obtain ⟨t, t1, t2, t3⟩ := (h.lw y hy).2.reach hb
        exact t3.trans (ih t t1 (by omega) (by omega))
  have all : ∀ x y, St x → idx (pn pl) ≤ idx x → St y → idx (pn pl) ≤ idx y → RIn Ed (fun z => St z ∧ idx (pn pl) ≤ idx z) x y := fun x y hx h1 hy h2 =>
    (up (idx x - idx (pn pl) + 1).toNat x hx h1 (by omega)).trans (down (idx y - idx (pn pl) + 1).toNat y hy h2 (by omega))
  have hsp : ∀ i, i < sl → (idx (sk i) < idx (pn pl) ↔ i < p) := fun i hi => by
    rw [← hpu]
    rcases Nat.lt_trichotomy i p with q | q | q
    · have := h.inc i p q hp; constructor <;> intro <;> omega
    · subst q; constructor <;> intro <;> omega
    · have := h.inc p i q hi; constructor <;> intro <;> omega
  refine ⟨fun x hx => h.lt x hx.1, fun x => ?_, fun i j hij hj => h.inc i j hij (by omega), h.rng, fun x hx => h.pos x hx.1, fun i hi => ⟨h.pst i (by omega), h.pin i pl hi (by omega)⟩, fun i j hij hj => h.pin i j hij (by omega), fun i hi => h.ped i (by omega), fun i hi x hx hlt => ?_, fun x hx => ?_, fun x hx hpx => ?_, fun x hx => ?_, fun x hx => ?_, fun x hx e => ?_, fun x y hx hy hcx hxy => ?_, h.nv, ?_⟩
  · constructor
    · rintro ⟨h1, h2⟩
      obtain ⟨i, hi, rfl⟩ := (h.stk x).1 h1
      exact ⟨i, (hsp i hi).1 h2, rfl⟩
    · rintro ⟨i, hi, rfl⟩
      exact ⟨(h.stk _).2 ⟨i, by omega, rfl⟩, (hsp i (by omega)).2 hi⟩
  · obtain ⟨y, h1, h2, h3, h4⟩ := h.tr i (by omega) x hx.1 hlt
    exact ⟨y, ⟨h1, by have := hx.2; omega⟩, h2, h3, h4⟩
  · obtain ⟨h1, h2⟩ := h.lw x hx.1
    exact ⟨h1, h2.cut hc (by have := hx.2; omega)⟩
  · obtain ⟨h1, h2⟩ := h.q x hx.1 (fun i hi => by
      by_cases ei : i = pl
      · subst ei; intro e; subst e; have := hx.2; omega
      · exact hpx i (by omega))
    exact ⟨h1, fun i hi hlt hm => h2 i (by omega) hlt (fun j hj hlj => by
      by_cases ej : j = pl
      · subst ej; have := hx.2; omega
      · exact hm j (by omega) hlj)⟩
  · by_cases q : St x ∧ idx (pn pl) ≤ idx x
    · rw [hc1 x q.1 q.2]; right; omega
    · rw [hc2 x q]
      rcases h.cr x hx with q | q
      · exact .inl q
      · right; omega
  · rw [hc2 x (fun q => by have := hx.2; omega)]; exact h.cst x hx.1
  · rw [hc2 x (fun q => by have := h.pos x q.1; omega)]; exact h.cv x hx e
  · have hold : ∀ z, z < n → ¬ comp z = c := fun z hz e => by
      rcases h.cr z hz with q | q <;> omega
    by_cases q : St x ∧ idx (pn pl) ≤ idx x
    · have ex := hc1 x q.1 q.2
      have qy : St y ∧ idx (pn pl) ≤ idx y := by
        apply Classical.byContradiction
        intro qy
        rw [ex, hc2 y qy] at hxy
        exact hold y hy hxy.symm
      exact (all x y q.1 q.2 qy.1 qy.2).mono (fun z hz => by rw [ex]; exact hc1 z hz.1 hz.2)
    · have ex := hc2 x q
      have qy : ¬ (St y ∧ idx (pn pl) ≤ idx y) := fun qy => by
        rw [ex, hc1 y qy.1 qy.2] at hxy
        exact hold x hx hxy
      rw [ex] at hcx
      rw [ex, hc2 y qy] at hxy
      refine (h.cs x y hx hy hcx hxy).mono (fun z hz => ?_)
      have hz' : comp z = comp x := hz
      rw [ex, hc2 z (fun qz => by have := h.cst z qz.1; omega)]; exact hz'
  · have := h.cn; omega
/-- At the start. -/
theorem TJ.start (n : Nat) (Ed : Nat → Nat → Prop) (low : Nat → Int) (sk pn : Nat → Nat) : TJ n Ed (fun _ => -1) low (fun _ => -1) (fun _ => False) 0 sk 0 pn 0 0 := by
  refine ⟨fun _ h => h.elim, fun x => ⟨fun h => h.elim, fun ⟨i, hi, _⟩ => by omega⟩, fun i j _ hj => by omega, fun _ _ => .inl rfl, fun _ h => h.elim, fun i hi => by omega, fun i j _ hj => by omega, fun i hi => by omega, fun i hi => by omega, fun _ h => h.elim, fun _ h => h.elim, fun _ _ => .inl rfl, fun _ h => h.elim, fun _ _ _ => rfl, fun x y _ _ h => by omega, ?_, by omega⟩
  have : ∀ n, num (fun _ => (-1 : Int) ≠ -1) n = 0 := fun n => by
    induction n with
    | zero => rfl
    | succ n ih => unfold num; rw [ih]; simp
  exact (this n).symm
end Go.Proofs.YbulkdvbsGreat

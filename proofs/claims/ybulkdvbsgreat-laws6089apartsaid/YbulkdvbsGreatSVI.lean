/-
  singleVersionReads: the two sets, made in whatever order.
-/
import Derived.Test.YbulkdvbsGreatSVN
namespace Go.Proofs.YbulkdvbsGreat
open Go.RowKit

/-- What has been made so far: the sets (t5, t11), their variables (v12, v13). -/
structure IK (w0 : World) (NK : Nat) (t5 t11 : Option (Nat × Nat)) (v12 v13 : Option (Nat × Value)) (cls : Nat → Nat) (W : World) : Prop where
  k : Keep (fun _ => False) w0 W
  new : ∀ b, cls b ≠ 0 → w0.heap.size ≤ b ∧ b < W.heap.size
  h5 : ∀ A C, t5 = some (A, C) → cls A = 1 ∧ cls C = 2 ∧ KSt W A C NK (fun _ => false)
  h11 : ∀ A C, t11 = some (A, C) → cls A = 3 ∧ cls C = 4 ∧ KSt W A C NK (fun _ => false)
  h12 : ∀ V x, v12 = some (V, x) → cls V = 5 ∧ W.heap[V]? = some (.cells #[x] 216)
  h13 : ∀ V x, v13 = some (V, x) → cls V = 6 ∧ W.heap[V]? = some (.cells #[x] 216)
section
variable {w0 : World} {NK : Nat} {t5 t11 : Option (Nat × Nat)} {v12 v13 : Option (Nat × Value)} {cls : Nat → Nat} {W w' : World}
theorem IK.quiet (h : IK w0 NK t5 t11 v12 v13 cls W) (k : Keep (fun _ => False) W w') : IK w0 NK t5 t11 v12 v13 cls w' :=
  ⟨h.k.trans k (fun _ q => q.elim), fun b q => ⟨(h.new b q).1, Nat.lt_of_lt_of_le (h.new b q).2 k.size⟩, fun A C e => ⟨(h.h5 A C e).1, (h.h5 A C e).2.1, (h.h5 A C e).2.2.keep k id id⟩, fun A C e => ⟨(h.h11 A C e).1, (h.h11 A C e).2.1, (h.h11 A C e).2.2.keep k id id⟩, fun V x e => ⟨(h.h12 V x e).1, k.at (h.h12 V x e).2 id⟩, fun V x e => ⟨(h.h13 V x e).1, k.at (h.h13 V x e).2 id⟩⟩
/-- New blocks get their kind. -/
theorem IK.cls2 (h : IK w0 NK t5 t11 v12 v13 cls W) (k : Keep (fun _ => False) W w') (a b x y : Nat) (ha : W.heap.size ≤ a) (hb : W.heap.size ≤ b) (ha' : a < w'.heap.size) (hb' : b < w'.heap.size) : IK w0 NK t5 t11 v12 v13 (put1 (put1 cls a x) b y) w' := by
  have g := h.quiet k
  have old : ∀ c, cls c ≠ 0 → put1 (put1 cls a x) b y c = cls c := fun c q => by
    have := (h.new c q).2
    rw [put1_ne _ _ (by omega), put1_ne _ _ (by omega)]
  refine ⟨g.k, fun c q => ?_, fun A C e => ?_, fun A C e => ?_, fun V z e => ?_, fun V z e => ?_⟩
  · have hs := h.k.size
    by_cases e1 : c = b
    · subst e1; exact ⟨by omega, hb'⟩
    · rw [put1_ne _ _ e1] at q
      by_cases e2 : c = a
      · subst e2; exact ⟨by omega, ha'⟩
      · rw [put1_ne _ _ e2] at q; exact g.new c q
  · obtain ⟨q1, q2, q3⟩ := g.h5 A C e
    exact ⟨by rw [old A (by omega)]; exact q1, by rw [old C (by omega)]; exact q2, q3⟩
  · obtain ⟨q1, q2, q3⟩ := g.h11 A C e
    exact ⟨by rw [old A (by omega)]; exact q1, by rw [old C (by omega)]; exact q2, q3⟩
  · obtain ⟨q1, q2⟩ := g.h12 V z e
    exact ⟨by rw [old V (by omega)]; exact q1, q2⟩
  · obtain ⟨q1, q2⟩ := g.h13 V z e
    exact ⟨by rw [old V (by omega)]; exact q1, q2⟩
theorem IK.set5 (h : IK w0 NK none t11 v12 v13 cls W) (k : Keep (fun _ => False) W w') {A C : Nat} (s : KSt w' A C NK (fun _ => false)) (hA : W.heap.size ≤ A) (hC : W.heap.size ≤ C) : IK w0 NK (some (A, C)) t11 v12 v13 (put1 (put1 cls A 1) C 2) w' := by
  have g := h.cls2 k A C 1 2 hA hC (heap_lt s.blk) s.lt
  exact ⟨g.k, g.new, fun A' C' e => by
    injection e with e; injection e with e1 e2
    subst e1; subst e2
    refine ⟨by rw [put1_ne _ _ s.ne, put1_at], by rw [put1_at], s⟩, g.h11, g.h12, g.h13⟩
theorem IK.set11 (h : IK w0 NK t5 none v12 v13 cls W) (k : Keep (fun _ => False) W w') {A C : Nat} (s : KSt w' A C NK (fun _ => false)) (hA : W.heap.size ≤ A) (hC : W.heap.size ≤ C) : IK w0 NK t5 (some (A, C)) v12 v13 (put1 (put1 cls A 3) C 4) w' := by
  have g := h.cls2 k A C 3 4 hA hC (heap_lt s.blk) s.lt
  exact ⟨g.k, g.new, g.h5, fun A' C' e => by
    injection e with e; injection e with e1 e2
    subst e1; subst e2
    refine ⟨by rw [put1_ne _ _ s.ne, put1_at], by rw [put1_at], s⟩, g.h12, g.h13⟩
theorem IK.al12 (h : IK w0 NK t5 t11 none v13 cls W) : IK w0 NK t5 t11 (some (W.heap.size, .pointer none)) v13 (put1 (put1 cls W.heap.size 5) W.heap.size 5) (W.alloc (.cells #[.pointer none] 216)) := by
  have hl := heap_lt (heap_alloc_new W (.cells #[.pointer none] 216))
  have g := h.cls2 (Keep.alloc (fun _ => False) W (.cells #[.pointer none] 216)) W.heap.size W.heap.size 5 5 (Nat.le_refl _) (Nat.le_refl _) hl hl
  exact ⟨g.k, g.new, g.h5, g.h11, fun V x e => by
    injection e with e; injection e with e1 e2
    subst e1; subst e2
    exact ⟨by rw [put1_at], heap_alloc_new W _⟩, g.h13⟩
theorem IK.al13 (h : IK w0 NK t5 t11 v12 none cls W) : IK w0 NK t5 t11 v12 (some (W.heap.size, .pointer none)) (put1 (put1 cls W.heap.size 6) W.heap.size 6) (W.alloc (.cells #[.pointer none] 216)) := by
  have hl := heap_lt (heap_alloc_new W (.cells #[.pointer none] 216))
  have g := h.cls2 (Keep.alloc (fun _ => False) W (.cells #[.pointer none] 216)) W.heap.size W.heap.size 6 6 (Nat.le_refl _) (Nat.le_refl _) hl hl
  exact ⟨g.k, g.new, g.h5, g.h11, g.h12, fun V x e => by
    injection e with e; injection e with e1 e2
    subst e1; subst e2
    exact ⟨by rw [put1_at], heap_alloc_new W _⟩⟩
theorem IK.st14 {V : Nat} {x : Value} (h : IK w0 NK t5 t11 (some (V, x)) v13 cls W) (y : Value) : IK w0 NK t5 t11 (some (V, y)) v13 cls (W.setCell ⟨V, 0, none⟩ y) := by
  obtain ⟨cV, bV⟩ := h.h12 V x rfl
  have k := Keep.setCell W ⟨V, 0, none⟩ y
  have ne : ∀ b, cls b ≠ 5 → ¬ b = V := fun b q r => q (by rw [r]; exact cV)
  exact ⟨h.k.trans k (fun b q => .inr (by have e : b = V := q; rw [e]; exact (h.new V (by omega)).1)), fun b q => ⟨(h.new b q).1, Nat.lt_of_lt_of_le (h.new b q).2 k.size⟩, fun A C e => ⟨(h.h5 A C e).1, (h.h5 A C e).2.1, (h.h5 A C e).2.2.keep k (ne A (by rw [(h.h5 A C e).1]; omega)) (ne C (by rw [(h.h5 A C e).2.1]; omega))⟩, fun A C e => ⟨(h.h11 A C e).1, (h.h11 A C e).2.1, (h.h11 A C e).2.2.keep k (ne A (by rw [(h.h11 A C e).1]; omega)) (ne C (by rw [(h.h11 A C e).2.1]; omega))⟩, fun V' x' e => by
    injection e with e; injection e with e1 e2
    subst e1; subst e2
    exact ⟨cV, heap_set W V 0 y _ _ bV⟩, fun V' x' e => ⟨(h.h13 V' x' e).1, k.at (h.h13 V' x' e).2 (ne V' (by rw [(h.h13 V' x' e).1]; omega))⟩⟩
theorem IK.st15 {V : Nat} {x : Value} (h : IK w0 NK t5 t11 v12 (some (V, x)) cls W) (y : Value) : IK w0 NK t5 t11 v12 (some (V, y)) cls (W.setCell ⟨V, 0, none⟩ y) := by
  obtain ⟨cV, bV⟩ := h.h13 V x rfl
  have k := Keep.setCell W ⟨V, 0, none⟩ y
  have ne : ∀ b, cls b ≠ 6 → ¬ b = V := fun b q r => q (by rw [r]; exact cV)
  exact ⟨h.k.trans k (fun b q => .inr (by have e : b = V := q; rw [e]; exact (h.new V (by omega)).1)), fun b q => ⟨(h.new b q).1, Nat.lt_of_lt_of_le (h.new b q).2 k.size⟩, fun A C e => ⟨(h.h5 A C e).1, (h.h5 A C e).2.1, (h.h5 A C e).2.2.keep k (ne A (by rw [(h.h5 A C e).1]; omega)) (ne C (by rw [(h.h5 A C e).2.1]; omega))⟩, fun A C e => ⟨(h.h11 A C e).1, (h.h11 A C e).2.1, (h.h11 A C e).2.2.keep k (ne A (by rw [(h.h11 A C e).1]; omega)) (ne C (by rw [(h.h11 A C e).2.1]; omega))⟩, fun V' x' e => ⟨(h.h12 V' x' e).1, k.at (h.h12 V' x' e).2 (ne V' (by rw [(h.h12 V' x' e).1]; omega))⟩, fun V' x' e => by
    injection e with e; injection e with e1 e2
    subst e1; subst e2
    exact ⟨cV, heap_set W V 0 y _ _ bV⟩⟩
end
/-- The blocks that the last pass does not turn. -/
def SSd (Z b32 b33 b : Nat) : Prop := b < Z ∨ b = Z + 1 ∨ b = Z + 3 ∨ b = b32 ∨ b = b33
theorem sw_start {w10 W : World} {Z NK TA TC OV OC b32 b33 : Nat} {x y : Value} {cl : Nat → Nat} (M : Nat) (h : IK w10 NK (some (TA, TC)) (some (OV, OC)) (some (b32, x)) (some (b33, y)) cl W) (hZ : Z + 4 ≤ w10.heap.size) (row : Row w10 Z NK (fun _ => .slice none 0 0)) (mp : MQ isB w10 (Z + 2) 0) :
    ∃ cls, SW (SSd Z b32 b33) W Z (Z + 2) TA TC OV OC NK M cls (fun _ => 0) (fun _ => none) (fun _ => 0) (fun _ _ => 0) 0 (fun _ => false) (fun _ => false) W := by
  obtain ⟨a1, a2, a3⟩ := h.h5 TA TC rfl
  obtain ⟨d1, d2, d3⟩ := h.h11 OV OC rfl
  obtain ⟨e1, e2⟩ := h.h12 b32 x rfl
  obtain ⟨f1, f2⟩ := h.h13 b33 y rfl
  have nT := h.new TA (by omega)
  have nTC := h.new TC (by omega)
  have nO := h.new OV (by omega)
  have nOC := h.new OC (by omega)
  have n2 := h.new b32 (by omega)
  have n3 := h.new b33 (by omega)
  have ne : ∀ p q : Nat, cl p ≠ cl q → p ≠ q := fun p q r e => r (by rw [e])
  have g1 := ne TA TC (by omega)
  have g2 := ne TA OC (by omega)
  have g3 := ne OV TC (by omega)
  have g4 := ne OV OC (by omega)
  have g5 := ne TC OC (by omega)
  have g6 := ne b32 TA (by omega)
  have g7 := ne b32 TC (by omega)
  have g8 := ne b32 OV (by omega)
  have g9 := ne b32 OC (by omega)
  have g10 := ne b33 TA (by omega)
  have g11 := ne b33 TC (by omega)
  have g12 := ne b33 OV (by omega)
  have g13 := ne b33 OC (by omega)
  have hs := h.k.size
  refine ⟨fun b => if b = Z then 1 else if b = Z + 2 then 2 else if b = TA ∨ b = OV then 3 else if b = TC then 4 else if b = OC then 5 else 0, ?_⟩
  refine ⟨Keep.refl _ _, fun b sb => ?_, fun b q => ?_, by simp, by simp, ?_, ?_, ?_, ?_, row.keep (h.k.block Z (by omega) id), fun _ _ => Vec.nil _ _ _ _, fun _ i _ q => by omega, fun _ g _ q => by simp at q, mp.keep h.k id, a3, d3⟩
  · have sb' : b < Z ∨ b = Z + 1 ∨ b = Z + 3 ∨ b = b32 ∨ b = b33 := sb
    rw [if_neg (by omega), if_neg (by omega), if_neg (by omega), if_neg (by omega), if_neg (by omega)]
  · by_cases q1 : b = Z
    · omega
    · by_cases q2 : b = Z + 2
      · omega
      · by_cases q3 : b = TA ∨ b = OV
        · omega
        · by_cases q4 : b = TC
          · omega
          · by_cases q5 : b = OC
            · omega
            · exact absurd (by rw [if_neg q1, if_neg q2, if_neg q3, if_neg q4, if_neg q5]) q
  · simp only []; rw [if_neg (by omega), if_neg (by omega), if_pos (by simp)]
  · simp only []; rw [if_neg (by omega), if_neg (by omega), if_neg (by omega), if_pos (by simp)]
  · simp only []; rw [if_neg (by omega), if_neg (by omega), if_pos (by simp)]
  · simp only []; rw [if_neg (by omega), if_neg (by omega), if_neg (by omega), if_neg (by omega), if_pos (by simp)]
/-- What the last pass reads, besides. -/
structure ST5 (w : World) (B OB M oc EM KS NK N : Nat) (ka : Nat → Nat) (SO ST : Nat) (so : Nat → Int) (st : Nat → Nat) (C SU an SP Z : Nat) (fs has : Nat → Bool) (awa : Nat → Option Addr) (ln awc : Nat → Nat) (av : Nat → Nat → Nat) (f : Nat → Int) (W : World) : Prop where
  e2 : E2 w B OB M oc EM KS NK N ka SO ST so st C W
  su : Row W SU NK (fun i => .bool (fs i))
  mp : MP W 31 (SU + 1) an (intM .u64 (valF (awF has awa ln awc)))
  vec : ∀ t, Vec W 21 1 (awa t) (ln t) (awc t) (fun i _ => .int .i32 (av t i : Int))
  sp : Row W SP (NK + 1) (fun i => .int .i64 (f i))
  lt : ∀ t i, i < ln t → av t i < NK
  sz : ∀ t, ln t ≤ 2000
  zC : C + 4 ≤ Z
  zU : SU + 1 < Z
  zP : SP < Z
  zV : ∀ t g, awa t = some ⟨g, 0, none⟩ → g < Z
  zZ : Z ≤ W.heap.size
  non : ∀ t, has t = false → awa t = none ∧ ln t = 0 ∧ awc t = 0
theorem ST5.keep {w : World} {B OB M oc EM KS NK N : Nat} {ka : Nat → Nat} {SO ST : Nat} {so : Nat → Int} {st : Nat → Nat} {C SU an SP Z : Nat} {fs has : Nat → Bool} {awa : Nat → Option Addr} {ln awc : Nat → Nat} {av : Nat → Nat → Nat} {f : Nat → Int} {W W' : World} (h : ST5 w B OB M oc EM KS NK N ka SO ST so st C SU an SP Z fs has awa ln awc av f W) {F : Nat → Prop} (k : Keep F W W') (hF : ∀ b, F b → Z ≤ b) : ST5 w B OB M oc EM KS NK N ka SO ST so st C SU an SP Z fs has awa ln awc av f W' := by
  have h1 := h.zC
  have h2 := h.zU
  have h3 := h.zP
  have h4 := h.zZ
  have nf : ∀ b, b < Z → ¬ F b := fun b q r => by have := hF b r; omega
  exact { h with
    e2 := h.e2.keep k (fun b q => by have := hF b q; omega)
    su := h.su.keep (k.block SU (by omega) (nf _ (by omega)))
    mp := h.mp.keep k (nf _ h2)
    vec := fun t => (h.vec t).keep k (fun g e => nf g (h.zV t g e))
    sp := h.sp.keep (k.block SP (by omega) (nf _ h3))
    zZ := Nat.le_trans h.zZ k.size }
theorem SC.to5 {w w6 w8 w9 : World} {B OB M oc EM KS NK N : Nat} {ka : Nat → Nat} {SO ST : Nat} {so : Nat → Int} {st : Nat → Nat} {C SU SP : Nat} {cls : Nat → Nat} {has : Nat → Bool} {awa : Nat → Option Addr} {ln awc : Nat → Nat} {av : Nat → Nat → Nat} {an : Nat} {f : Nat → Int} (h : SC w6 SU (SU + 1) NK N cls has awa ln awc av an w8) (k : Keep (fun b => b = SP) w8 w9) (hc : ∀ b, cls b ≠ 0 → b < SP) (e : E2 w B OB M oc EM KS NK N ka SO ST so st C w9) (r : Row w9 SP (NK + 1) (fun i => .int .i64 (f i))) (hS : SP < w9.heap.size) (hM : M ≤ 2000) :
    ∃ fs, ST5 w B OB M oc EM KS NK N ka SO ST so st C SU an SP w9.heap.size fs has awa ln awc av f w9 := by
  obtain ⟨fs, hr⟩ := h.row
  have nf : ∀ b, cls b ≠ 0 → ¬ b = SP := fun b q r => by have := hc b q; omega
  have hU := h.new SU (by rw [h.cS]; omega)
  have hA := h.new (SU + 1) (by rw [h.cA]; omega)
  have hk := k.size
  have nm := e.nm
  exact ⟨fs, e, hr.keep (k.block SU hU.2 (nf SU (by rw [h.cS]; omega))), h.mp.keep k (nf _ (by rw [h.cA]; omega)), fun t => (h.vec t).keep k (fun g q => nf g (by rw [h.cV t g q]; omega)), r, h.lt, fun t => by have := h.sz t; omega, e.lt, by omega, hS, fun t g q => by have := (h.new g (by rw [h.cV t g q]; omega)).2; omega, Nat.le_refl _, h.non⟩
theorem exec_make215 {ρ : Operand → Value} {dst : Option Tmp} {x y : Operand} {ty : TypeId} {pos : String} {after : Array Edge} {guard : Option (Nat × Bool)} : execOp ρ { dst, op := .makeSlice 215 x y, type := ty, pos, after, guard } = opMk 215 (ρ x) (ρ y) := rfl
theorem inf95 : ∃ i, Ybaz.prog.info? 95 = some i ∧ i.zero = some (.slice none 0 0) ∧ i.size = 1 ∧ i.bytes = 24 := inf_of (by kernel_rfl)
end Go.Proofs.YbulkdvbsGreat

/-
  singleVersionReads: maps whose values are of one kind; the words of memory; what lies behind each step.
-/
import Derived.Test.YbulkdvbsGreatKSet
import Derived.Test.YbulkdvbsGreatRig
import Derived.Test.YbulkdvbsGreatSteps
import Derived.Test.YbulkdvbsGreatEnter
namespace Go.Proofs.YbulkdvbsGreat
open Go.RowKit

/-- All keys taken out. -/
theorem MP.clear {w : World} {k t e : TypeId} {b n : Nat} {m : Lit → Option Value} (h : MP w k b n m) (ht : Ybaz.prog.underlying t = some (.map k e)) (ty : TypeId) :
    ∃ w', (Builtin.clear_ #[t] ty #[.map (some b)]).run Ybaz.prog w = .ok (.tuple #[]) w' ∧ MP w' k b 0 (fun _ => none) ∧ Keep (fun i => i = b) w w' := by
  obtain ⟨D, ⟨es, clock, hb, F, hs, hD⟩, v⟩ := h
  have hlt := heap_lt hb
  refine ⟨{ w with heap := w.heap.setIfInBounds b (.map #[] clock) }, ?_, ⟨.map [], ⟨#[], clock, (MapKept.heap_set hb).1, ⟨by simp, MapKept.stamped_empty clock, by simp⟩, Nat.le_refl _, rfl⟩, ⟨fun _ => rfl, fun _ _ h => by simp at h⟩⟩, ⟨rfl, rfl, rfl, by simp, fun i hi hn => (MapKept.heap_set hb).2 i hn⟩⟩
  simp [Builtin.clear_, run_underlying ht, MapKept.run_getObj_map hb, MapKept.run_setObj_map _ hb, Result.andThen]
/-- A map over transactions whose values are of one kind. -/
def MQ (Q : Value → Prop) (w : World) (b n : Nat) : Prop := ∃ m, MP w 31 b n m ∧ ∀ l v, m l = some v → Q v
/-- A bool; a byte. -/
def isB (v : Value) : Prop := ∃ q : Bool, v = .bool q
def isU8 (v : Value) : Prop := ∃ q : Int, v = .int .u8 q
section
variable {Q : Value → Prop} {w w' : World} {b n : Nat}
theorem MQ.lt (h : MQ Q w b n) : b < w.heap.size := by obtain ⟨m, h, _⟩ := h; exact h.lt
theorem MQ.keep (h : MQ Q w b n) {F : Nat → Prop} (k : Keep F w w') (hF : ¬ F b) : MQ Q w' b n := by obtain ⟨m, h, q⟩ := h; exact ⟨m, h.keep k hF, q⟩
theorem MQ.made (Q : Value → Prop) (w : World) : MQ Q (w.alloc (.map #[] 0)) w.heap.size 0 := ⟨_, MP.made w 31, fun _ _ h => by simp at h⟩
theorem MQ.look (h : MQ Q w b n) {t e : TypeId} (ht : Ybaz.prog.underlying t = some (.map 31 e)) {z : Value} (hz : (zeroValue e).run Ybaz.prog w = .ok z w) (hq : Q z) (x : Nat) (hx : x ≤ 5) :
    ∃ v, (Instr.lookup t (.map (some b)) (.int .u64 (x : Int)) false).run Ybaz.prog w = .ok v w ∧ Q v := by
  obtain ⟨m, h, q⟩ := h
  refine ⟨_, h.look keyed31 ht hz (tkey x hx), ?_⟩
  cases e : m (.int .u64 (x : Int)) with
  | none => exact hq
  | some v => exact q _ _ e
/-- The same in every world in which all that stood stands. -/
theorem MQ.looks (h : MQ Q w b n) {t e : TypeId} (ht : Ybaz.prog.underlying t = some (.map 31 e)) {z : Value} (hz : ∀ w', (zeroValue e).run Ybaz.prog w' = .ok z w') (hq : Q z) (x : Nat) (hx : x ≤ 5) :
    ∃ v, Q v ∧ ∀ w', Keep (fun _ => False) w w' → (Instr.lookup t (.map (some b)) (.int .u64 (x : Int)) false).run Ybaz.prog w' = .ok v w' := by
  obtain ⟨m, h, q⟩ := h
  refine ⟨(m (.int .u64 (x : Int))).getD z, ?_, fun w' k => (h.keep k id).look keyed31 ht (hz w') (tkey x hx)⟩
  cases e : m (.int .u64 (x : Int)) with
  | none => exact hq
  | some v => exact q _ _ e
theorem MQ.put (h : MQ Q w b n) {t e : TypeId} (ht : Ybaz.prog.underlying t = some (.map 31 e)) (hn : n < maxLen) (x : Nat) (hx : x ≤ 5) (val : Value) (hv : Q val) :
    ∃ w', (Instr.mapUpdate t (.map (some b)) (.int .u64 (x : Int)) val).run Ybaz.prog w = .ok () w' ∧ MQ Q w' b (n + 1) ∧ Keep (fun i => i = b) w w' ∧ w'.heap.size = w.heap.size := by
  obtain ⟨m, h, q⟩ := h
  obtain ⟨w', h1, h2, h3, h4⟩ := h.put keyed31 ht hn (tkey x hx) val
  refine ⟨w', h1, ⟨_, h2, fun l v hl => ?_⟩, h3, h4⟩
  unfold mput at hl
  split at hl
  · injection hl with hl; rw [← hl]; exact hv
  · exact q l v hl
theorem MQ.clear (h : MQ Q w b n) {t e : TypeId} (ht : Ybaz.prog.underlying t = some (.map 31 e)) (ty : TypeId) :
    ∃ w', (Builtin.clear_ #[t] ty #[.map (some b)]).run Ybaz.prog w = .ok (.tuple #[]) w' ∧ MQ Q w' b 0 ∧ Keep (fun i => i = b) w w' := by
  obtain ⟨m, h, q⟩ := h
  obtain ⟨w', h1, h2, h3⟩ := h.clear ht ty
  exact ⟨w', h1, ⟨_, h2, fun _ _ h => by simp at h⟩, h3⟩
end
theorem zero4 (w : World) : (zeroValue 4).run Ybaz.prog w = .ok (.bool false) w := by kernel_rfl
theorem zero28 (w : World) : (zeroValue 28).run Ybaz.prog w = .ok (.int .u8 0) w := by kernel_rfl

theorem KSp.keep2 {w w' : World} {KS NK : Nat} {wr : Nat → Prop} {num : Nat → Nat} {sx : Nat → ByteArray} {mb : Nat} {sa : Option Addr} {sc mn : Nat} (h : KSp w KS NK wr num sx mb sa sc mn) {F : Nat → Prop} (k : Keep F w w') (h1 : ¬ F KS) (h2 : ¬ F mb) (h3 : 0 < NK → ∀ g, sa = some ⟨g, 0, none⟩ → ¬ F g) : KSp w' KS NK wr num sx mb sa sc mn := by
  obtain ⟨m, hm, r1, r2⟩ := h.map
  refine ⟨k.at h.blk h1, ⟨m, hm.keep k h2, r1, r2⟩, h.nk, h.nlt, h.inj, fun h0 => ?_⟩
  obtain ⟨g, e, hg, r⟩ := h.row h0
  exact ⟨g, e, Nat.lt_of_lt_of_le hg k.size, r.keep (k.block g hg (h3 h0 g e))⟩
/-- What the pass over the history reads: SS are the blocks that are not turned any more. -/
structure SE (SS : Nat → Prop) (w : World) (B3 B4 B5 BF V30 V31 V32 V33 OB M oc : Nat) (kd tx ky : Nat → Nat) (EM en FA : Nat) (fb : Nat → Bool) (KS NK : Nat) (wt : Nat → Prop) (num : Nat → Nat) (sx : Nat → ByteArray) (mb : Nat) (sa : Option Addr) (sc mn PB GM TA OV : Nat) : Prop where
  b3 : w.heap[B3]? = some (.cells #[.slice (some ⟨OB, 0, none⟩) M oc] 23)
  b4 : w.heap[B4]? = some (.cells #[.map (some EM)] 46)
  b5 : w.heap[B5]? = some (.cells #[.pointer (some ⟨KS, 0, none⟩)] 50)
  bf : w.heap[BF]? = some (.cells #[.slice (some ⟨FA, 0, none⟩) M M] 86)
  v30 : w.heap[V30]? = some (.cells #[.slice (some ⟨PB, 0, none⟩) NK NK] 215)
  v31 : w.heap[V31]? = some (.cells #[.map (some GM)] 210)
  v32 : w.heap[V32]? = some (.cells #[.pointer (some ⟨TA, 0, none⟩)] 216)
  v33 : w.heap[V33]? = some (.cells #[.pointer (some ⟨OV, 0, none⟩)] 216)
  op : OP w OB M kd tx ky
  em : MQ isU8 w EM en
  fr : Row w FA M (fun i => .bool (fb i))
  fl : FA < w.heap.size
  ks : KSp w KS NK wt num sx mb sa sc mn
  s1 : SS B3 ∧ SS B4 ∧ SS B5 ∧ SS BF ∧ SS V30 ∧ SS V31 ∧ SS V32 ∧ SS V33
  s2 : SS OB ∧ SS EM ∧ SS FA ∧ SS KS ∧ SS mb ∧ ∀ g, sa = some ⟨g, 0, none⟩ → 0 < NK → SS g
/-- What the pass turns: the writes standing, those gone, the two sets. -/
structure SW (SS : Nat → Prop) (w1 : World) (PB GM TA TC OV OC NK M : Nat) (cls ln : Nat → Nat) (wa : Nat → Option Addr) (wc : Nat → Nat) (wv : Nat → Nat → Nat) (gn : Nat) (c1 c2 : Nat → Bool) (w : World) : Prop where
  k : Keep (fun b => ¬ SS b) w1 w
  z : ∀ b, SS b → cls b = 0
  new : ∀ b, cls b ≠ 0 → b < w.heap.size
  cP : cls PB = 1
  cG : cls GM = 2
  cT : cls TA = 3
  cTC : cls TC = 4
  cO : cls OV = 3
  cOC : cls OC = 5
  row : Row w PB NK (fun x => .slice (wa x) (ln x) (wc x))
  vec : ∀ x, x < NK → Vec w 21 1 (wa x) (ln x) (wc x) (fun i _ => .int .i32 (wv x i : Int))
  lt : ∀ x i, x < NK → i < ln x → wv x i < M
  cV : ∀ x g, x < NK → wa x = some ⟨g, 0, none⟩ → cls g = 10 + x
  mp : MQ isB w GM gn
  t : KSt w TA TC NK c1
  o : KSt w OV OC NK c2
section
variable {SS : Nat → Prop} {w1 w w' : World} {PB GM TA TC OV OC NK M : Nat} {cls ln : Nat → Nat} {wa : Nat → Option Addr} {wc : Nat → Nat} {wv : Nat → Nat → Nat} {gn : Nat} {c1 c2 : Nat → Bool}
theorem SE.keep {B3 B4 B5 BF V30 V31 V32 V33 OB oc : Nat} {kd tx ky : Nat → Nat} {EM en FA : Nat} {fb : Nat → Bool} {KS : Nat} {wt : Nat → Prop} {num : Nat → Nat} {sx : Nat → ByteArray} {mb : Nat} {sa : Option Addr} {sc mn : Nat}
    (h : SE SS w B3 B4 B5 BF V30 V31 V32 V33 OB M oc kd tx ky EM en FA fb KS NK wt num sx mb sa sc mn PB GM TA OV) (k : Keep (fun b => ¬ SS b) w w') : SE SS w' B3 B4 B5 BF V30 V31 V32 V33 OB M oc kd tx ky EM en FA fb KS NK wt num sx mb sa sc mn PB GM TA OV := by
  obtain ⟨a1, a2, a3, a4, a5, a6, a7, a8⟩ := h.s1
  obtain ⟨d1, d2, d3, d4, d5, d6⟩ := h.s2
  exact ⟨k.at h.b3 (fun q => q a1), k.at h.b4 (fun q => q a2), k.at h.b5 (fun q => q a3), k.at h.bf (fun q => q a4), k.at h.v30 (fun q => q a5), k.at h.v31 (fun q => q a6), k.at h.v32 (fun q => q a7), k.at h.v33 (fun q => q a8), h.op.keep k (fun q => q d1), h.em.keep k (fun q => q d2), h.fr.keep (k.block FA h.fl (fun q => q d3)), Nat.lt_of_lt_of_le h.fl k.size, h.ks.keep2 k (fun q => q d4) (fun q => q d5) (fun h0 g e q => q (d6 g e h0)), h.s1, h.s2⟩
/-- What turns is of a kind: the rest stands. -/
theorem SW.stay (h : SW SS w1 PB GM TA TC OV OC NK M cls ln wa wc wv gn c1 c2 w) {F : Nat → Prop} (k : Keep F w w') (hF : ∀ b, F b → cls b ≠ 0) : Keep (fun b => ¬ SS b) w1 w' :=
  h.k.trans k (fun b q => .inl (fun s => hF b q (h.z b s)))
theorem SW.quiet (h : SW SS w1 PB GM TA TC OV OC NK M cls ln wa wc wv gn c1 c2 w) (k : Keep (fun _ => False) w w') : SW SS w1 PB GM TA TC OV OC NK M cls ln wa wc wv gn c1 c2 w' :=
  { h with
    k := h.stay k (fun _ q => q.elim)
    new := fun b q => Nat.lt_of_lt_of_le (h.new b q) k.size
    row := h.row.keep (k.block PB (h.new PB (by rw [h.cP]; omega)) id)
    vec := fun x hx => (h.vec x hx).keep k (fun _ _ => id)
    mp := h.mp.keep k id
    t := h.t.keep k id id
    o := h.o.keep k id id }
/-- One key's writes are cut to n. -/
theorem SW.cut (h : SW SS w1 PB GM TA TC OV OC NK M cls ln wa wc wv gn c1 c2 w) (x n : Nat) (hx : x < NK) (hn : n ≤ ln x) :
    SW SS w1 PB GM TA TC OV OC NK M cls (put1 ln x n) wa wc wv gn c1 c2 (w.setCell ⟨PB, x, none⟩ (.slice (wa x) n (wc x))) := by
  have k := Keep.setCell w ⟨PB, x, none⟩ (.slice (wa x) n (wc x))
  have kF : ∀ b, b = PB → cls b ≠ 0 := fun b q => by rw [q, h.cP]; omega
  have ne : ∀ b, cls b ≠ 1 → ¬ b = PB := fun b q r => q (by rw [r]; exact h.cP)
  exact { h with
    k := h.stay k kF
    new := fun b q => Nat.lt_of_lt_of_le (h.new b q) k.size
    row := (h.row.set x _ hx).congr (fun i _ => by
      by_cases e : i = x
      · simp [e, put1]
      · simp [e, put1])
    vec := fun y hy => by
      have hv := (h.vec y hy).keep k (fun g e => ne g (by rw [h.cV y g hy e]; omega))
      by_cases e : y = x
      · subst e; rw [put1_at]; exact hv.take n hn
      · rw [put1_ne _ _ e]; exact hv
    lt := fun y i hy hi => h.lt y i hy (by
      by_cases e : y = x
      · subst e; rw [put1_at] at hi; omega
      · rwa [put1_ne _ _ e] at hi)
    mp := h.mp.keep k (ne GM (by rw [h.cG]; omega))
    t := h.t.keep k (ne TA (by rw [h.cT]; omega)) (ne TC (by rw [h.cTC]; omega))
    o := h.o.keep k (ne OV (by rw [h.cO]; omega)) (ne OC (by rw [h.cOC]; omega)) }
/-- A set is turned. -/
theorem SW.set1 (h : SW SS w1 PB GM TA TC OV OC NK M cls ln wa wc wv gn c1 c2 w) {c' : Nat → Bool} (e : KSend w w' TA TC NK c') : SW SS w1 PB GM TA TC OV OC NK M cls ln wa wc wv gn c' c2 w' := by
  obtain ⟨t, k⟩ := e
  have ne : ∀ b, cls b ≠ 4 → ¬ b = TC := fun b q r => q (by rw [r]; exact h.cTC)
  exact { h with
    k := h.stay k (fun b q => by rw [q, h.cTC]; omega)
    new := fun b q => Nat.lt_of_lt_of_le (h.new b q) k.size
    row := h.row.keep (k.block PB (h.new PB (by rw [h.cP]; omega)) (ne PB (by rw [h.cP]; omega)))
    vec := fun y hy => (h.vec y hy).keep k (fun g e => ne g (by rw [h.cV y g hy e]; omega))
    mp := h.mp.keep k (ne GM (by rw [h.cG]; omega))
    t := t
    o := h.o.keep k (ne OV (by rw [h.cO]; omega)) (ne OC (by rw [h.cOC]; omega)) }
theorem SW.set2 (h : SW SS w1 PB GM TA TC OV OC NK M cls ln wa wc wv gn c1 c2 w) {c' : Nat → Bool} (e : KSend w w' OV OC NK c') : SW SS w1 PB GM TA TC OV OC NK M cls ln wa wc wv gn c1 c' w' := by
  obtain ⟨t, k⟩ := e
  have ne : ∀ b, cls b ≠ 5 → ¬ b = OC := fun b q r => q (by rw [r]; exact h.cOC)
  exact { h with
    k := h.stay k (fun b q => by rw [q, h.cOC]; omega)
    new := fun b q => Nat.lt_of_lt_of_le (h.new b q) k.size
    row := h.row.keep (k.block PB (h.new PB (by rw [h.cP]; omega)) (ne PB (by rw [h.cP]; omega)))
    vec := fun y hy => (h.vec y hy).keep k (fun g e => ne g (by rw [h.cV y g hy e]; omega))
    mp := h.mp.keep k (ne GM (by rw [h.cG]; omega))
    t := h.t.keep k (ne TA (by rw [h.cT]; omega)) (ne TC (by rw [h.cTC]; omega))
    o := t }
/-- A transaction is gone. -/
theorem SW.gone (h : SW SS w1 PB GM TA TC OV OC NK M cls ln wa wc wv gn c1 c2 w) {gn' : Nat} (m : MQ isB w' GM gn') (k : Keep (fun b => b = GM) w w') : SW SS w1 PB GM TA TC OV OC NK M cls ln wa wc wv gn' c1 c2 w' := by
  have ne : ∀ b, cls b ≠ 2 → ¬ b = GM := fun b q r => q (by rw [r]; exact h.cG)
  exact { h with
    k := h.stay k (fun b q => by rw [q, h.cG]; omega)
    new := fun b q => Nat.lt_of_lt_of_le (h.new b q) k.size
    row := h.row.keep (k.block PB (h.new PB (by rw [h.cP]; omega)) (ne PB (by rw [h.cP]; omega)))
    vec := fun y hy => (h.vec y hy).keep k (fun g e => ne g (by rw [h.cV y g hy e]; omega))
    mp := m
    t := h.t.keep k (ne TA (by rw [h.cT]; omega)) (ne TC (by rw [h.cTC]; omega))
    o := h.o.keep k (ne OV (by rw [h.cO]; omega)) (ne OC (by rw [h.cOC]; omega)) }
/-- A write is laid on top. -/
theorem SW.push (h : SW SS w1 PB GM TA TC OV OC NK M cls ln wa wc wv gn c1 c2 w) (hS : ∀ b, SS b → b < w.heap.size) (x i : Nat) (hx : x < NK) (hi : i < M) {g cap : Nat} {w2 : World}
    (hv : Vec w2 21 1 (some ⟨g, 0, none⟩) (ln x + 1) cap (Go.Proofs.YbulkdvbsGreat.push (ln x) (fun j _ => .int .i32 (wv x j : Int)) (fun _ => .int .i32 (i : Int)))) (hk : Keep (fun b => wa x = some ⟨b, 0, none⟩) w w2) (hg : wa x = some ⟨g, 0, none⟩ ∨ w.heap.size ≤ g) (hl : g < w2.heap.size) :
    SW SS w1 PB GM TA TC OV OC NK M (put1 cls g (10 + x)) (put1 ln x (ln x + 1)) (put1 wa x (some ⟨g, 0, none⟩)) (put1 wc x cap) (put1 wv x (put1 (wv x) (ln x) i)) gn c1 c2 (w2.setCell ⟨PB, x, none⟩ (.slice (some ⟨g, 0, none⟩) (ln x + 1) cap)) := by
  have k := Keep.setCell w2 ⟨PB, x, none⟩ (.slice (some ⟨g, 0, none⟩) (ln x + 1) cap)
  have kF : ∀ b, b = PB → cls b ≠ 0 := fun b q => by rw [q, h.cP]; omega
  have ne : ∀ b, cls b ≠ 1 → ¬ b = PB := fun b q r => q (by rw [r]; exact h.cP)
  have nx : ∀ b, cls b ≠ 10 + x → ¬ wa x = some ⟨b, 0, none⟩ := fun b q r => q (h.cV x b hx r)
  have gx : ∀ b, cls b ≠ 0 → cls b ≠ 10 + x → b ≠ g := fun b q q2 r => by
    rcases hg with e | e
    · exact q2 (by rw [r]; exact h.cV x g hx e)
    · have := h.new b q; omega
  have old : ∀ b, cls b ≠ 0 → cls b ≠ 10 + x → put1 cls g (10 + x) b = cls b := fun b q q2 => put1_ne _ _ (gx b q q2)
  have gS : ∀ b, SS b → b ≠ g := fun b s r => by
    rcases hg with e | e
    · have := h.cV x g hx e; rw [← r, h.z b s] at this; omega
    · have := hS b s; omega
  have hP : PB < w.heap.size := h.new PB (by rw [h.cP]; omega)
  have k2 : Keep (fun b => b = PB ∨ wa x = some ⟨b, 0, none⟩) w (w2.setCell ⟨PB, x, none⟩ (.slice (some ⟨g, 0, none⟩) (ln x + 1) cap)) := (hk.wide (fun b q => .inr q)).trans k (fun b q => .inl (.inl q))
  have nn : ∀ b, cls b ≠ 1 → cls b ≠ 10 + x → ¬ (b = PB ∨ wa x = some ⟨b, 0, none⟩) := fun b q1 q2 r => by
    rcases r with r | r
    · exact ne b q1 r
    · exact nx b q2 r
  exact {
    k := h.k.trans k2 (fun b q => .inl (fun s => by
      have := h.z b s
      rcases q with r | r
      · exact kF b r this
      · have := h.cV x b hx r; omega))
    z := fun b s => by rw [put1_ne _ _ (gS b s)]; exact h.z b s
    new := fun b q => by
      by_cases e : b = g
      · subst e; exact Nat.lt_of_lt_of_le hl k.size
      · rw [put1_ne _ _ e] at q; exact Nat.lt_of_lt_of_le (h.new b q) k2.size
    cP := by rw [old _ (by rw [h.cP]; omega) (by rw [h.cP]; omega)]; exact h.cP
    cG := by rw [old _ (by rw [h.cG]; omega) (by rw [h.cG]; omega)]; exact h.cG
    cT := by rw [old _ (by rw [h.cT]; omega) (by rw [h.cT]; omega)]; exact h.cT
    cTC := by rw [old _ (by rw [h.cTC]; omega) (by rw [h.cTC]; omega)]; exact h.cTC
    cO := by rw [old _ (by rw [h.cO]; omega) (by rw [h.cO]; omega)]; exact h.cO
    cOC := by rw [old _ (by rw [h.cOC]; omega) (by rw [h.cOC]; omega)]; exact h.cOC
    row := ((h.row.keep (hk.block PB hP (nx PB (by rw [h.cP]; omega)))).set x _ hx).congr (fun j _ => by
      by_cases e : j = x
      · subst e; simp [put1]
      · simp [e, put1])
    vec := fun y hy => by
      by_cases e : y = x
      · subst e
        simp only [put1_at]
        refine (hv.keep k (fun g' q r => ?_)).congr Nat.one_pos (fun j c hj _ => ?_)
        · have e1 : g = g' := by injection q with q; injection q
          exact gx PB (by rw [h.cP]; omega) (by rw [h.cP]; omega) (by rw [e1]; exact r.symm)
        · unfold Go.Proofs.YbulkdvbsGreat.push put1
          by_cases e2 : j = ln y
          · simp [e2]
          · simp [e2]
      · simp only [put1_ne _ _ e]
        exact (h.vec y hy).keep k2 (fun g' q => nn g' (by rw [h.cV y g' hy q]; omega) (by rw [h.cV y g' hy q]; omega))
    lt := fun y j hy hj => by
      by_cases e : y = x
      · subst e
        simp only [put1_at] at hj ⊢
        by_cases e2 : j = ln y
        · subst e2; rw [put1_at]; exact hi
        · rw [put1_ne _ _ e2]; exact h.lt y j hy (by omega)
      · simp only [put1_ne _ _ e] at hj ⊢
        exact h.lt y j hy hj
    cV := fun y g' hy q => by
      by_cases e : y = x
      · subst e
        rw [put1_at] at q
        have e1 : g = g' := by injection q with q; injection q
        rw [← e1, put1_at]
      · rw [put1_ne _ _ e] at q
        have := h.cV y g' hy q
        rw [old g' (by omega) (by omega)]; exact this
    mp := h.mp.keep k2 (nn GM (by rw [h.cG]; omega) (by rw [h.cG]; omega))
    t := h.t.keep k2 (nn TA (by rw [h.cT]; omega) (by rw [h.cT]; omega)) (nn TC (by rw [h.cTC]; omega) (by rw [h.cTC]; omega))
    o := h.o.keep k2 (nn OV (by rw [h.cO]; omega) (by rw [h.cO]; omega)) (nn OC (by rw [h.cOC]; omega) (by rw [h.cOC]; omega)) }
end
/-- What a set member means. -/
def SOk (NK : Nat) (ln : Nat → Nat) (c1 c2 : Nat → Bool) : Prop := ∀ x, x < NK → c1 x = true ∨ c2 x = true → 0 < ln x
/-- Between two operations; no key has more than B writes standing, gn transactions are gone. -/
def SX (SS : Nat → Prop) (w1 : World) (PB GM TA TC OV OC NK M B gn : Nat) (w : World) : Prop := ∃ cls ln wa wc wv c1 c2, SW SS w1 PB GM TA TC OV OC NK M cls ln wa wc wv gn c1 c2 w ∧ SOk NK ln c1 c2 ∧ ∀ x, x < NK → ln x ≤ B
end Go.Proofs.YbulkdvbsGreat

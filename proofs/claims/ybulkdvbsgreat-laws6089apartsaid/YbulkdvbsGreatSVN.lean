/-
  singleVersionReads: the words of memory of the later passes.
-/
import Derived.Test.YbulkdvbsGreatSVM
namespace Go.Proofs.YbulkdvbsGreat
open Go.RowKit

/-- A map over transactions, by a function of the naturals. -/
def valF (f : Nat → Option Value) : Int → Option Value := fun x => if 0 ≤ x then f x.toNat else none
theorem valF_at (f : Nat → Option Value) (t : Nat) : valF f (t : Int) = f t := by simp [valF]
theorem valF_put (f : Nat → Option Value) (t : Nat) (v : Value) : (fun z => if z = (t : Int) then some v else valF f z) = valF (put1 f t (some v)) := by
  funext z
  unfold valF put1
  by_cases e : z = (t : Int)
  · subst e; simp
  · by_cases h0 : 0 ≤ z
    · have : ¬ z.toNat = t := by omega
      simp [e, h0, this]
    · simp [e, h0]
/-- What abortsWriting holds. -/
def awF (has : Nat → Bool) (wa : Nat → Option Addr) (ln wc : Nat → Nat) : Nat → Option Value := fun t => if has t = true then some (.slice (wa t) (ln t) (wc t)) else none
/-- The third pass: suspect, abortsWriting. -/
structure SC (w6 : World) (SU AM NK B : Nat) (cls : Nat → Nat) (has : Nat → Bool) (wa : Nat → Option Addr) (ln wc : Nat → Nat) (av : Nat → Nat → Nat) (an : Nat) (wr : World) : Prop where
  k : Keep (fun _ => False) w6 wr
  new : ∀ b, cls b ≠ 0 → w6.heap.size ≤ b ∧ b < wr.heap.size
  cS : cls SU = 1
  cA : cls AM = 2
  row : ∃ f : Nat → Bool, Row wr SU NK (fun i => .bool (f i))
  mp : MP wr 31 AM an (intM .u64 (valF (awF has wa ln wc)))
  non : ∀ t, has t = false → wa t = none ∧ ln t = 0 ∧ wc t = 0
  vec : ∀ t, Vec wr 21 1 (wa t) (ln t) (wc t) (fun i _ => .int .i32 (av t i : Int))
  lt : ∀ t i, i < ln t → av t i < NK
  cV : ∀ t g, wa t = some ⟨g, 0, none⟩ → cls g = 10 + t
  sz : ∀ t, ln t ≤ B
  an' : an ≤ B
section
variable {w6 wr w' : World} {SU AM NK B : Nat} {cls : Nat → Nat} {has : Nat → Bool} {wa : Nat → Option Addr} {ln wc : Nat → Nat} {av : Nat → Nat → Nat} {an : Nat}
theorem SC.quiet (h : SC w6 SU AM NK B cls has wa ln wc av an wr) (k : Keep (fun _ => False) wr w') : SC w6 SU AM NK B cls has wa ln wc av an w' :=
  { h with
    k := h.k.trans k (fun _ q => q.elim)
    new := fun b q => ⟨(h.new b q).1, Nat.lt_of_lt_of_le (h.new b q).2 k.size⟩
    row := by obtain ⟨f, r⟩ := h.row; exact ⟨f, r.keep (k.block SU (h.new SU (by rw [h.cS]; omega)).2 id)⟩
    mp := h.mp.keep k id
    vec := fun t => (h.vec t).keep k (fun _ _ => id) }
theorem SC.more (h : SC w6 SU AM NK B cls has wa ln wc av an wr) {B' : Nat} (hB : B ≤ B') : SC w6 SU AM NK B' cls has wa ln wc av an wr :=
  { h with
    sz := fun t => Nat.le_trans (h.sz t) hB
    an' := Nat.le_trans h.an' hB }
/-- A key is suspect. -/
theorem SC.susp (h : SC w6 SU AM NK B cls has wa ln wc av an wr) (x : Nat) (hx : x < NK) : SC w6 SU AM NK B cls has wa ln wc av an (wr.setCell ⟨SU, x, none⟩ (.bool true)) := by
  have k := Keep.setCell wr ⟨SU, x, none⟩ (.bool true)
  have ne : ∀ b, cls b ≠ 1 → ¬ b = SU := fun b q r => q (by rw [r]; exact h.cS)
  exact { h with
    k := h.k.trans k (fun b q => .inr (by have e : b = SU := q; rw [e]; exact (h.new SU (by rw [h.cS]; omega)).1))
    new := fun b q => ⟨(h.new b q).1, Nat.lt_of_lt_of_le (h.new b q).2 k.size⟩
    row := by
      obtain ⟨f, r⟩ := h.row
      refine ⟨fun i => if i = x then true else f i, (r.set x _ hx).congr (fun i _ => ?_)⟩
      by_cases e : i = x <;> simp [e]
    mp := h.mp.keep k (ne AM (by rw [h.cA]; omega))
    vec := fun t => (h.vec t).keep k (fun g e => ne g (by rw [h.cV t g e]; omega)) }
/-- A key that an aborting transaction writes is laid. -/
theorem SC.push (h : SC w6 SU AM NK B cls has wa ln wc av an wr) (t x : Nat) (hx : x < NK) {g cap : Nat} {w2 : World}
    (hv : Vec w2 21 1 (some ⟨g, 0, none⟩) (ln t + 1) cap (Go.Proofs.YbulkdvbsGreat.push (ln t) (fun j _ => .int .i32 (av t j : Int)) (fun _ => .int .i32 (x : Int)))) (hk : Keep (fun b => wa t = some ⟨b, 0, none⟩) wr w2) (hg : wa t = some ⟨g, 0, none⟩ ∨ wr.heap.size ≤ g) (hl : g < w2.heap.size) (hk2 : Keep (fun b => b = AM) w2 w')
    (hm : MP w' 31 AM (an + 1) (intM .u64 (valF (put1 (awF has wa ln wc) t (some (.slice (some ⟨g, 0, none⟩) (ln t + 1) cap)))))) :
    SC w6 SU AM NK (B + 1) (put1 cls g (10 + t)) (put1 has t true) (put1 wa t (some ⟨g, 0, none⟩)) (put1 ln t (ln t + 1)) (put1 wc t cap) (put1 av t (put1 (av t) (ln t) x)) (an + 1) w' := by
  have nx : ∀ b, cls b ≠ 10 + t → ¬ wa t = some ⟨b, 0, none⟩ := fun b q r => q (h.cV t b r)
  have ne : ∀ b, cls b ≠ 2 → ¬ b = AM := fun b q r => q (by rw [r]; exact h.cA)
  have hk0 : w6.heap.size ≤ wr.heap.size := h.k.size
  have gx : ∀ b, cls b ≠ 0 → cls b ≠ 10 + t → b ≠ g := fun b q q2 r => by
    rcases hg with e | e
    · exact q2 (by rw [r]; exact h.cV t g e)
    · have := (h.new b q).2; omega
  have gA : g ≠ AM := fun e => gx AM (by rw [h.cA]; omega) (by rw [h.cA]; omega) e.symm
  have old : ∀ b, cls b ≠ 0 → cls b ≠ 10 + t → put1 cls g (10 + t) b = cls b := fun b q q2 => put1_ne _ _ (gx b q q2)
  have k2 : Keep (fun b => b = AM ∨ wa t = some ⟨b, 0, none⟩) wr w' := (hk.wide (fun b q => .inr q)).trans hk2 (fun b q => .inl (.inl q))
  have nn : ∀ b, cls b ≠ 2 → cls b ≠ 10 + t → ¬ (b = AM ∨ wa t = some ⟨b, 0, none⟩) := fun b q1 q2 r => by
    rcases r with r | r
    · exact ne b q1 r
    · exact nx b q2 r
  exact {
    k := h.k.trans k2 (fun b q => .inr (by
      rcases q with r | r
      · rw [r]; exact (h.new AM (by rw [h.cA]; omega)).1
      · exact (h.new b (by rw [h.cV t b r]; omega)).1))
    new := fun b q => by
      by_cases e : b = g
      · subst e
        refine ⟨?_, Nat.lt_of_lt_of_le hl hk2.size⟩
        rcases hg with r | r
        · exact (h.new b (by rw [h.cV t b r]; omega)).1
        · omega
      · rw [put1_ne _ _ e] at q; exact ⟨(h.new b q).1, Nat.lt_of_lt_of_le (h.new b q).2 k2.size⟩
    cS := by rw [old _ (by rw [h.cS]; omega) (by rw [h.cS]; omega)]; exact h.cS
    cA := by rw [old _ (by rw [h.cA]; omega) (by rw [h.cA]; omega)]; exact h.cA
    row := by
      obtain ⟨f, r⟩ := h.row
      exact ⟨f, r.keep (k2.block SU (h.new SU (by rw [h.cS]; omega)).2 (nn SU (by rw [h.cS]; omega) (by rw [h.cS]; omega)))⟩
    mp := by
      refine hm.congr (fun l => ?_)
      congr 2
      funext s
      unfold awF put1
      by_cases e : s = t
      · simp [e]
      · simp [e]
    non := fun s hs => by
      by_cases e : s = t
      · rw [e, put1_at] at hs; simp at hs
      · rw [put1_ne _ _ e] at hs; simp only [put1_ne _ _ e]; exact h.non s hs
    vec := fun s => by
      by_cases e : s = t
      · subst e
        simp only [put1_at]
        refine (hv.keep hk2 (fun g' q r => ?_)).congr Nat.one_pos (fun j c hj _ => ?_)
        · have e1 : g = g' := by injection q with q; injection q
          exact gA (by rw [e1]; exact r)
        · unfold Go.Proofs.YbulkdvbsGreat.push put1
          by_cases e2 : j = ln s
          · simp [e2]
          · simp [e2]
      · simp only [put1_ne _ _ e]
        exact (h.vec s).keep k2 (fun g' q => nn g' (by rw [h.cV s g' q]; omega) (by rw [h.cV s g' q]; omega))
    lt := fun s j hj => by
      by_cases e : s = t
      · subst e
        simp only [put1_at] at hj ⊢
        by_cases e2 : j = ln s
        · subst e2; rw [put1_at]; exact hx
        · rw [put1_ne _ _ e2]; exact h.lt s j (by omega)
      · simp only [put1_ne _ _ e] at hj ⊢
        exact h.lt s j hj
    cV := fun s g' q => by
      by_cases e : s = t
      · subst e
        rw [put1_at] at q
        have e1 : g = g' := by injection q with q; injection q
        rw [← e1, put1_at]
      · rw [put1_ne _ _ e] at q
        have := h.cV s g' q
        rw [old g' (by omega) (by omega)]; exact this
    sz := fun s => by
      have := h.sz t
      by_cases e : s = t
      · subst e; rw [put1_at]; omega
      · rw [put1_ne _ _ e]; have := h.sz s; omega
    an' := by have := h.an'; omega }
end
/-- Between two writes of the third pass. -/
def SC1 (w6 : World) (SU AM NK B : Nat) (wr : World) : Prop := ∃ cls has wa ln wc av an, SC w6 SU AM NK B cls has wa ln wc av an wr
end Go.Proofs.YbulkdvbsGreat

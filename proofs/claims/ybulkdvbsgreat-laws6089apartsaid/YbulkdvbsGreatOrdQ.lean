/-
  order: what lies where while nodes are taken.
-/
import Derived.Test.YbulkdvbsGreatOrdP
namespace Go.Proofs.YbulkdvbsGreat
open Go.RowKit

/-- How the choice of an order stands, with its memory. -/
structure OQ (n : Nat) (first : Nat → Nat) (next : Nat → Int) (w3 wr : World) (S0 PR : Nat) (p : Nat → Nat) (T : Nat → Bool) (D : Nat → Prop) (ol k : Nat) (f : Nat → Nat) (ea em : Nat) (a : Option Addr) (c OB oc : Nat) (o : Nat → Nat) : Prop where
  os : OS n first next p T D ol k f ea em
  hp : HP wr S0 a k c f
  ha : ∀ b, a = some ⟨b, 0, none⟩ → S0 < b
  rw : Row wr PR n (fun i => .int .i64 (p i : Int))
  ov : Vec wr 3 1 (some ⟨OB, 0, none⟩) ol oc (fun i _ => .int .i64 (o i : Int))
  oo : ∀ i, i < ol → o i < n
  ho : S0 < OB ∧ ¬ a = some ⟨OB, 0, none⟩
  kp : Keep (fun b => b = PR ∨ S0 ≤ b) w3 wr
  hs : PR < S0 ∧ S0 = w3.heap.size
section
variable {n : Nat} {first : Nat → Nat} {next : Nat → Int} {w3 wr w' : World} {S0 PR : Nat} {p : Nat → Nat} {T : Nat → Bool} {D : Nat → Prop} {ol k : Nat} {f : Nat → Nat} {ea em : Nat} {a : Option Addr} {c OB oc : Nat} {o : Nat → Nat}
theorem OQ.size (h : OQ n first next w3 wr S0 PR p T D ol k f ea em a c OB oc o) : S0 < wr.heap.size ∧ OB < wr.heap.size := ⟨heap_lt h.hp.blk, h.ov.lt rfl⟩
theorem OQ.bound (h : OQ n first next w3 wr S0 PR p T D ol k f ea em a c OB oc o) : ol + k ≤ n := by rw [← h.os.nm]; exact @num_le D (fun x => Classical.propDecidable (D x)) n
theorem OQ.keepF (h : OQ n first next w3 wr S0 PR p T D ol k f ea em a c OB oc o) (q : Keep (fun _ => False) wr w') : OQ n first next w3 w' S0 PR p T D ol k f ea em a c OB oc o :=
  ⟨h.os, h.hp.keep q (fun _ _ r => r), h.ha, h.rw.keep (q.block PR (by have := h.size; have := h.hs; omega) id), h.ov.keep q (fun _ _ r => r), h.oo, h.ho, h.kp.trans q (fun _ r => r.elim), h.hs⟩
/-- A node is taken and listed. -/
theorem OQ.take {em' : Nat} (h : OQ n first next w3 wr S0 PR p T D ol (k + 1) f em' 0 a c OB oc o) {g : Nat → Nat} (hv : HP w' S0 a k c g) (hsh : Shuf (k + 1) f g) (hk : Keep (hOwn S0 a) wr w') {g4 cap4 : Nat} {w5 : World} (ob : Obj) (hv4 : Vec w5 3 1 (some ⟨g4, 0, none⟩) (ol + 1) cap4 (push ol (fun i _ => .int .i64 (o i : Int)) (fun _ => .int .i64 (g k : Int)))) (hk4 : Keep (fun b => some (⟨OB, 0, none⟩ : Addr) = some ⟨b, 0, none⟩) (w'.alloc ob) w5) (hg4 : some (⟨OB, 0, none⟩ : Addr) = some ⟨g4, 0, none⟩ ∨ g4 = (w'.alloc ob).heap.size) :
    OQ n first next w3 w5 S0 PR p (fun x => if x = g k then true else T x) D (ol + 1) k g (first (g k)) (first (g k + 1) - first (g k)) a c g4 cap4 (fun i => if i = ol then g k else o i) := by
  have t := (h.os.shuf hsh).pop
  have hsz := h.size
  have hhs := h.hs
  have kk : Keep (fun b => b = OB) w' w5 := ((Keep.alloc (fun b => b = OB) w' ob).trans hk4 (fun b q => .inl (by injection q with q; injection q with q; exact q.symm)))
  have hsk := hk.size
  have hgk : g4 = OB ∨ w'.heap.size ≤ g4 := by
    rcases hg4 with q | q
    · injection q with q; injection q with q; exact .inl q.symm
    · rw [World.size_alloc] at q; exact .inr (by omega)
  refine ⟨t, hv.keep kk (fun b hb q => ?_), h.ha, (h.rw.keep (hk.block PR (by omega) ?_)).keep (kk.block PR (by omega) (by have := h.ho; omega)), hv4.congr Nat.one_pos (fun i _ _ _ => by unfold push; by_cases e : i = ol <;> simp only [e, if_true, if_false]), fun i hi => ?_, ?_, ?_, hhs⟩
  · subst q
    rcases hb with r | r
    · have := h.ho; omega
    · exact h.ho.2 r
  · rintro (q | q)
    · omega
    · have := h.ha PR q; omega
  · by_cases e : i = ol
    · simp only [e, if_true]; exact ((h.os.shuf hsh).hp k (by omega)).1
    · simp only [e, if_false]; exact h.oo i (by omega)
  · rcases hgk with q | q
    · rw [q]; exact h.ho
    · refine ⟨by omega, fun r => ?_⟩
      have := h.hp.vec.lt r
      omega
  · refine (h.kp.trans hk (fun b q => .inl (.inr ?_))).trans kk (fun b q => .inl (.inr ?_))
    · rcases q with q | q
      · omega
      · have := h.ha b q; omega
    · have := h.ho; omega
/-- An edge to v has been looked at. -/
theorem OQ.edge (h : OQ n first next w3 wr S0 PR p T D ol k f ea (em + 1) a c OB oc o) (v : Nat) (hv : v < n) (he : next ea = (v : Int)) :
    1 ≤ p v ∧ ¬ D v ∧ OQ n first next w3 (wr.setCell ⟨PR, v, none⟩ (.int .i64 ((p v : Int) - 1))) S0 PR (fun x => if x = v then p v - 1 else p x) T D ol k f (ea + 1) em a c OB oc o := by
  obtain ⟨h1, h2, h3⟩ := h.os.edge v hv he
  have kk := Keep.setCell wr ⟨PR, v, none⟩ (.int .i64 ((p v : Int) - 1))
  have hhs := h.hs
  refine ⟨h1, h2, h3, h.hp.keep kk (fun b hb q => ?_), h.ha, (h.rw.set v _ hv).congr (fun i _ => ?_), h.ov.keep kk (fun b hb q => ?_), h.oo, h.ho, h.kp.trans kk (fun _ q => .inl (.inl q)), hhs⟩
  · have q2 : b = PR := q
    rcases hb with r | r
    · omega
    · have := h.ha b r; omega
  · by_cases e : i = v
    · simp only [e, if_true]; congr 1; omega
    · simp only [e, if_false]
  · have q2 : b = PR := q
    injection hb with hb; injection hb with hb
    have := h.ho; omega
/-- A node is pushed. -/
theorem OQ.push (h : OQ n first next w3 wr S0 PR p T D ol k f ea em a c OB oc o) (v : Nat) (hv : v < n) (hd : ¬ D v) (hz : p v = 0) {f' : Nat → Nat} {g c' : Nat} (hp : HP w' S0 (some ⟨g, 0, none⟩) (k + 1) c' f') (hsh : Shuf (k + 1) (fun i => if i = k then v else f i) f') (hk : Keep (hOwn S0 a) wr w') (hg : a = some ⟨g, 0, none⟩ ∨ wr.heap.size ≤ g) :
    OQ n first next w3 w' S0 PR p T (fun x => x = v ∨ D x) ol (k + 1) f' ea em (some ⟨g, 0, none⟩) c' OB oc o := by
  have hsz := h.size
  have hhs := h.hs
  refine ⟨(h.os.push v hv hd hz).shuf hsh, hp, fun b hb => ?_, h.rw.keep (hk.block PR (by omega) ?_), h.ov.keep hk (fun b hb q => ?_), h.oo, ⟨h.ho.1, fun q => ?_⟩, h.kp.trans hk (fun b q => .inl (.inr ?_)), hhs⟩
  · injection hb with hb; injection hb with hb
    subst hb
    rcases hg with q | q
    · exact h.ha _ q
    · omega
  · rintro (q | q)
    · omega
    · have := h.ha PR q; omega
  · injection hb with hb; injection hb with hb
    subst hb
    rcases q with q | q
    · have := h.ho; omega
    · exact h.ho.2 q
  · injection q with q; injection q with q
    rcases hg with r | r
    · rw [q] at r; exact h.ho.2 r
    · omega
  · rcases q with q | q
    · omega
    · have := h.ha b q; omega
end
end Go.Proofs.YbulkdvbsGreat

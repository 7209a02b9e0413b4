/-
  The law's own words, against History's: plain laws.
-/
import Derived.Test.YbulkdvbsGreatHis
import Derived.Test.YbulkdvbsGreatBld
import Derived.Test.YbulkdvbsGreatSerial
import Derived.Test.YbulkdvbsGreatRig
namespace Go.Proofs.YbulkdvbsGreat

/-- The law's own three arrays, ahead of operation i. -/
def seF (tx : Nat → Nat) : Nat → Nat → Bool
  | 0 => fun _ => false
  | i + 1 => put1 (seF tx i) (tx i - 1) true
def ekF (kd tx : Nat → Nat) : Nat → Nat → Nat
  | 0 => fun _ => 0
  | i + 1 => if kd i = 99 ∨ kd i = 97 then put1 (ekF kd tx i) (tx i - 1) (kd i) else ekF kd tx i
def eaF (kd tx : Nat → Nat) : Nat → Nat → Int
  | 0 => fun _ => -1
  | i + 1 => if kd i = 99 ∨ kd i = 97 then put1 (eaF kd tx i) (tx i - 1) (i : Int) else eaF kd tx i
/-- History's map and the law's arrays say the same. -/
theorem endF_law {kd tx : Nat → Nat} : ∀ i, (∀ j, j < i → 1 ≤ tx j) → ∀ t, (seF tx i t = false → ekF kd tx i t = 0) ∧ endF kd tx i (t + 1) = if seF tx i t = true then some (ekF kd tx i t) else none
  | 0, _, t => by simp [seF, ekF, endF]
  | i + 1, h, t => by
    have ih := endF_law (kd := kd) (tx := tx) i (fun j hj => h j (by omega))
    have h1 := h i (by omega)
    have e : ∀ s, (s + 1 = tx i) ↔ (s = tx i - 1) := fun s => by omega
    have ihi := ih (tx i - 1)
    rw [show tx i - 1 + 1 = tx i by omega] at ihi
    rw [endF_succ]
    show (put1 (seF tx i) (tx i - 1) true t = false → (if kd i = 99 ∨ kd i = 97 then put1 (ekF kd tx i) (tx i - 1) (kd i) else ekF kd tx i) t = 0) ∧ _ = if put1 (seF tx i) (tx i - 1) true t = true then some ((if kd i = 99 ∨ kd i = 97 then put1 (ekF kd tx i) (tx i - 1) (kd i) else ekF kd tx i) t) else none
    by_cases hk : kd i = 99 ∨ kd i = 97
    · simp only [if_pos hk, put1_if, e t]
      by_cases q : t = tx i - 1
      · simp [q]
      · simp only [if_neg q]; exact ih t
    · simp only [if_neg hk, put1_if]
      by_cases q : t = tx i - 1
      · subst q
        simp only [if_true, Bool.true_eq_false, false_implies, true_and]
        rw [show tx i - 1 + 1 = tx i by omega]
        cases hs : seF tx i (tx i - 1) with
        | false =>
          have h0 := ihi.1 hs
          have hn := ihi.2
          rw [hs] at hn
          simp only [Bool.false_eq_true, if_false] at hn
          rw [if_pos hn, put1_if, if_pos rfl, h0]
        | true =>
          have hn := ihi.2
          rw [hs] at hn
          simp only [if_true] at hn
          rw [if_neg (by rw [hn]; simp), hn]
      · simp only [if_neg q]
        refine ⟨(ih t).1, ?_⟩
        split
        · rw [put1_if, if_neg (by omega)]; exact (ih t).2
        · exact (ih t).2
/-- The law's counts, ahead of transaction t. -/
def cnF (p : Nat → Bool) : Nat → Nat
  | 0 => 0
  | t + 1 => cnF p t + if p t = true then 1 else 0
theorem cnF_le (p : Nat → Bool) : ∀ t, cnF p t ≤ t
  | 0 => Nat.le_refl _
  | t + 1 => by have := cnF_le p t; unfold cnF; split <;> omega
theorem cnF_cnt5 (p q : Nat → Bool) (h : ∀ t, t < 5 → p t = q (t + 1)) : cnF p 5 = cnt5 q := by
  unfold cnt5
  simp only [cnF, List.countP_cons, List.countP_nil, h 0 (by omega), h 1 (by omega), h 2 (by omega), h 3 (by omega), h 4 (by omega), Nat.reduceAdd]
  omega
theorem cn_all {kd tx : Nat → Nat} {M : Nat} (h1 : ∀ j, j < M → 1 ≤ tx j) : cnF (fun t => seF tx M t) 5 = cnt5 fun s => (endF kd tx M s).isSome :=
  cnF_cnt5 _ _ fun t _ => by rw [(endF_law M h1 t).2]; cases seF tx M t <;> simp
theorem cn_some {kd tx : Nat → Nat} {M : Nat} (h1 : ∀ j, j < M → 1 ≤ tx j) (z : Nat) : cnF (fun t => seF tx M t && ekF kd tx M t == z) 5 = cnt5 fun s => endF kd tx M s == some z :=
  cnF_cnt5 _ _ fun t _ => by rw [(endF_law M h1 t).2]; cases seF tx M t <;> simp
theorem ekF_kind {kd tx : Nat → Nat} : ∀ i t, ekF kd tx i t = 99 ∨ ekF kd tx i t = 97 ∨ ekF kd tx i t = 0
  | 0, _ => .inr (.inr rfl)
  | i + 1, t => by
    have ih := ekF_kind (kd := kd) (tx := tx) i t
    unfold ekF
    split
    · rw [put1_if]; split
      · omega
      · exact ih
    · exact ih
/-- Committed, in the law's words. -/
theorem com_law {kd tx : Nat → Nat} {M : Nat} (h1 : ∀ j, j < M → 1 ≤ tx j) (t : Nat) : endF kd tx M (t + 1) = some 99 ↔ ekF kd tx M t = 99 := by
  have h := endF_law (kd := kd) M h1 t
  rw [h.2]
  cases e : seF tx M t with
  | false => simp [h.1 e]
  | true => simp
/-- The law's Serial, ahead of transaction t (counted from 0). -/
def SerL (tx ek : Nat → Nat) (M t : Nat) : Prop := ∀ s, s < t → ek s = 99 → ∀ a b c, a ≤ b → b ≤ c → c < M → tx a - 1 = s → tx c - 1 = s → tx b - 1 ≠ s → ek (tx b - 1) ≠ 99
theorem ser_law {kd tx : Nat → Nat} {M : Nat} (h1 : ∀ j, j < M → 1 ≤ tx j ∧ tx j ≤ 5) : SerL tx (ekF kd tx M) M 5 ↔ Ser tx (fun t => endF kd tx M t = some 99) M := by
  have cl : ∀ j, j < M → (endF kd tx M (tx j) = some 99 ↔ ekF kd tx M (tx j - 1) = 99) := fun j hj => by
    have := com_law (kd := kd) (fun j hj => (h1 j hj).1) (tx j - 1)
    rwa [show tx j - 1 + 1 = tx j by have := h1 j hj; omega] at this
  constructor
  · intro h a b c hab hbc hc e1 e2 ca cb
    have ha := h1 a (by omega)
    have hb := h1 b (by omega)
    exact h (tx a - 1) (by omega) ((cl a (by omega)).1 ca) a b c (by omega) (by omega) hc rfl (by rw [e1]) (by omega) ((cl b (by omega)).1 cb)
  · intro h s hs hes a b c hab hbc hc ea ec eb cb
    have ha := h1 a (by omega)
    have hb := h1 b (by omega)
    have hcc := h1 c hc
    have n1 : a ≠ b := fun q => by rw [q] at ea; omega
    have n2 : b ≠ c := fun q => by rw [← q] at ec; omega
    exact h a b c (by omega) (by omega) hc (by omega) (by omega) ((cl a (by omega)).2 (by rw [ea]; exact hes)) ((cl b (by omega)).2 cb)
/-- The first and the last operation of t among the first i. -/
def fsF (tx : Nat → Nat) (t : Nat) : Nat → Int
  | 0 => -1
  | i + 1 => if tx i - 1 = t ∧ fsF tx t i < 0 then (i : Int) else fsF tx t i
def laF (tx : Nat → Nat) (t : Nat) : Nat → Int
  | 0 => -1
  | i + 1 => if tx i - 1 = t then (i : Int) else laF tx t i
theorem fsF_law (tx : Nat → Nat) (t : Nat) : ∀ i, (fsF tx t i = -1 ∧ ∀ j, j < i → tx j - 1 ≠ t) ∨ (∃ a : Nat, fsF tx t i = (a : Int) ∧ a < i ∧ tx a - 1 = t ∧ ∀ j, j < a → tx j - 1 ≠ t)
  | 0 => .inl ⟨rfl, fun j hj => by omega⟩
  | i + 1 => by
    unfold fsF
    rcases fsF_law tx t i with ⟨h1, h2⟩ | ⟨a, h1, h2, h3, h4⟩
    · by_cases e : tx i - 1 = t
      · rw [if_pos ⟨e, by omega⟩]; exact .inr ⟨i, rfl, by omega, e, h2⟩
      · rw [if_neg (fun q => e q.1)]; exact .inl ⟨h1, fun j hj => by
          by_cases q : j = i
          · rw [q]; exact e
          · exact h2 j (by omega)⟩
    · rw [if_neg (fun q => by have := q.2; omega)]; exact .inr ⟨a, h1, by omega, h3, h4⟩
theorem laF_law (tx : Nat → Nat) (t : Nat) : ∀ i, (laF tx t i = -1 ∧ ∀ j, j < i → tx j - 1 ≠ t) ∨ (∃ c : Nat, laF tx t i = (c : Int) ∧ c < i ∧ tx c - 1 = t ∧ ∀ j, c < j → j < i → tx j - 1 ≠ t)
  | 0 => .inl ⟨rfl, fun j hj => by omega⟩
  | i + 1 => by
    unfold laF
    by_cases e : tx i - 1 = t
    · rw [if_pos e]; exact .inr ⟨i, rfl, by omega, e, fun j h1 h2 => by omega⟩
    · rw [if_neg e]
      rcases laF_law tx t i with ⟨h1, h2⟩ | ⟨c, h1, h2, h3, h4⟩
      · exact .inl ⟨h1, fun j hj => by
          by_cases q : j = i
          · rw [q]; exact e
          · exact h2 j (by omega)⟩
      · exact .inr ⟨c, h1, by omega, h3, fun j q1 q2 => by
          by_cases q : j = i
          · rw [q]; exact e
          · exact h4 j q1 (by omega)⟩
/-- One transaction's share, by its first and last. -/
theorem serL_step {tx ek : Nat → Nat} {M t : Nat} (hc : ek t = 99) : SerL tx ek M (t + 1) ↔ SerL tx ek M t ∧ ∀ b : Nat, fsF tx t M ≤ (b : Int) → (b : Int) ≤ laF tx t M → 0 ≤ fsF tx t M → tx b - 1 ≠ t → ek (tx b - 1) ≠ 99 := by
  constructor
  · intro h
    refine ⟨fun s hs => h s (by omega), fun b h1 h2 h0 => ?_⟩
    rcases fsF_law tx t M with ⟨e, _⟩ | ⟨a, e, ha, ea, _⟩
    · omega
    · rcases laF_law tx t M with ⟨e', _⟩ | ⟨c, e', hc', ec, _⟩
      · omega
      · exact h t (by omega) hc a b c (by omega) (by omega) hc' ea ec
  · rintro ⟨h, g⟩ s hs hes a b c hab hbc hcM ea ec eb
    by_cases q : s = t
    · subst q
      refine g b ?_ ?_ ?_ eb
      · rcases fsF_law tx s M with ⟨e, n⟩ | ⟨a', e, ha', _, n⟩
        · omega
        · have : ¬ a < a' := fun z => n a z ea
          omega
      · rcases laF_law tx s M with ⟨e, n⟩ | ⟨c', e, hc', _, n⟩
        · exact absurd ec (n c hcM)
        · have : ¬ c' < c := fun z => n c z hcM ec
          omega
      · rcases fsF_law tx s M with ⟨e, n⟩ | ⟨a', e, ha', _, n⟩
        · exact absurd ea (n a (by omega))
        · omega
    · exact h s (by omega) hes a b c hab hbc hcM ea ec eb
theorem serL_skip {tx ek : Nat → Nat} {M t : Nat} (hc : ek t ≠ 99) : SerL tx ek M (t + 1) ↔ SerL tx ek M t := by
  constructor
  · exact fun h s hs => h s (by omega)
  · intro h s hs hes
    by_cases q : s = t
    · subst q; exact absurd hes hc
    · exact h s (by omega) hes
/-- Where a transaction ends. -/
theorem eaF_law {kd tx : Nat → Nat} : ∀ i t, (eaF kd tx i t = -1 ∧ ∀ j, j < i → tx j - 1 = t → ¬ (kd j = 99 ∨ kd j = 97)) ∨ (∃ e : Nat, eaF kd tx i t = (e : Int) ∧ e < i ∧ tx e - 1 = t ∧ (kd e = 99 ∨ kd e = 97))
  | 0, t => .inl ⟨rfl, fun j hj => by omega⟩
  | i + 1, t => by
    have ih := eaF_law (kd := kd) (tx := tx) i t
    unfold eaF
    by_cases hk : kd i = 99 ∨ kd i = 97
    · rw [if_pos hk, put1_if]
      by_cases q : t = tx i - 1
      · rw [if_pos q]; exact .inr ⟨i, rfl, by omega, q.symm, hk⟩
      · rw [if_neg q]
        rcases ih with ⟨h1, h2⟩ | ⟨e, h1, h2, h3, h4⟩
        · exact .inl ⟨h1, fun j hj e => by
            by_cases z : j = i
            · rw [z] at e; omega
            · exact h2 j (by omega) e⟩
        · exact .inr ⟨e, h1, by omega, h3, h4⟩
    · rw [if_neg hk]
      rcases ih with ⟨h1, h2⟩ | ⟨e, h1, h2, h3, h4⟩
      · exact .inl ⟨h1, fun j hj e => by
          by_cases z : j = i
          · rw [z]; exact hk
          · exact h2 j (by omega) e⟩
      · exact .inr ⟨e, h1, by omega, h3, h4⟩
theorem eaF_rng {kd tx : Nat → Nat} (i t : Nat) : -1 ≤ eaF kd tx i t ∧ eaF kd tx i t < i := by
  rcases eaF_law (kd := kd) (tx := tx) i t with ⟨h, _⟩ | ⟨e, h, h2, _⟩ <;> omega
/-- A pair of operations that breaks rigour, in the law's words. -/
def PairL (kd tx ky : Nat → Nat) (ea : Nat → Int) (i j : Nat) : Prop := Acc (kd j) ∧ Acc (kd i) ∧ tx i ≠ tx j ∧ ky i = ky j ∧ (kd i = 119 ∨ kd j = 119) ∧ (ea (tx i - 1) < 0 ∨ ea (tx i - 1) > (j : Int))
theorem pair_law {kd tx ky : Nat → Nat} {M : Nat} (hw : WFo kd tx M) (h1 : ∀ j, j < M → 1 ≤ tx j) {j : Nat} (hj : j < M) : Fault kd tx ky j ↔ ∃ i, i < j ∧ PairL kd tx ky (eaF kd tx M) i j := by
  unfold Fault PairL
  have key : ∀ i, i < j → Acc (kd i) → tx i ≠ tx j → (Alive kd tx (tx i) i j ↔ (eaF kd tx M (tx i - 1) < 0 ∨ eaF kd tx M (tx i - 1) > (j : Int))) := fun i hi ai ne => by
    have hti := h1 i (by omega)
    rcases eaF_law (kd := kd) (tx := tx) M (tx i - 1) with ⟨e, n⟩ | ⟨e, he, heM, et, ek⟩
    · constructor
      · intro _; left; omega
      · intro _ e h1' h2' ⟨h3, h4⟩
        exact n e (by omega) (by rw [h3]) h4
    · have hte := h1 e heM
      have et' : tx e = tx i := by omega
      have n1 : ¬ e < i := fun q => hw e i q (by omega) et' ek
      have n2 : e ≠ i := fun q => by rw [q] at ek; unfold Acc at ai; omega
      have n3 : e ≠ j := fun q => by rw [q] at et'; exact ne et'.symm
      constructor
      · intro al
        right
        have : ¬ e < j := fun q => al e (by omega) q ⟨et', ek⟩
        omega
      · intro q e2 q1 q2 ⟨q3, q4⟩
        have : ¬ e2 < e := fun z => hw e2 e z heM (by rw [q3, et']) q4
        omega
  constructor
  · rintro ⟨aj, i, hi, ai, ne, ek, wr, al⟩
    exact ⟨i, hi, aj, ai, ne, ek, wr, (key i hi ai ne).1 al⟩
  · rintro ⟨i, hi, aj, ai, ne, ek, wr, al⟩
    exact ⟨aj, i, hi, ai, ne, ek, wr, (key i hi ai ne).2 al⟩
/-- Between a transaction's first operation and p. -/
def SerM (tx ek : Nat → Nat) (M t : Nat) (f p : Int) : Prop := SerL tx ek M t ∧ ∀ b : Nat, f ≤ (b : Int) → (b : Int) < p → 0 ≤ f → tx b - 1 ≠ t → ek (tx b - 1) ≠ 99
theorem serM_start {tx ek : Nat → Nat} {M t : Nat} (f : Int) : SerM tx ek M t f f ↔ SerL tx ek M t := ⟨fun h => h.1, fun h => ⟨h, fun b h1 h2 => by omega⟩⟩
theorem serM_ok {tx ek : Nat → Nat} {M t q : Nat} {f : Int} (h : tx q - 1 = t ∨ ek (tx q - 1) ≠ 99) : SerM tx ek M t f ((q : Int) + 1) ↔ SerM tx ek M t f q := by
  constructor
  · exact fun g => ⟨g.1, fun b h1 h2 => g.2 b h1 (by omega)⟩
  · refine fun g => ⟨g.1, fun b h1 h2 h0 hn => ?_⟩
    by_cases e : b = q
    · subst e
      rcases h with h | h
      · exact absurd h hn
      · exact h
    · exact g.2 b h1 (by omega) h0 hn
theorem serM_bad {tx ek : Nat → Nat} {M t q : Nat} {f : Int} (h0 : 0 ≤ f) (h1 : f ≤ (q : Int)) (hn : tx q - 1 ≠ t) (he : ek (tx q - 1) = 99) : ¬ SerM tx ek M t f ((q : Int) + 1) := fun g => g.2 q h1 (by omega) h0 hn he
theorem serM_end {tx ek : Nat → Nat} {M t : Nat} {f l p : Int} (hc : ek t = 99) (hf : f = fsF tx t M) (hl : l = laF tx t M) (hp : p < 0 ∨ l < p) (h1 : f ≤ p) (h2 : 0 ≤ f → p ≤ l + 1) : SerM tx ek M t f p ↔ SerL tx ek M (t + 1) := by
  rw [serL_step hc, ← hf, ← hl]
  constructor
  · exact fun g => ⟨g.1, fun b q1 q2 q0 => g.2 b q1 (by have := h2 q0; omega) q0⟩
  · exact fun g => ⟨g.1, fun b q1 q2 q0 => g.2 b q1 (by have := h2 q0; omega) q0⟩
/-- No pair ahead of j breaks rigour; nor any of the first i with j. -/
def RigL (P : Nat → Nat → Prop) (j : Nat) : Prop := ∀ j', j' < j → ∀ i, i < j' → ¬ P i j'
def RigK (P : Nat → Nat → Prop) (j i : Nat) : Prop := RigL P j ∧ ∀ i', i' < i → ¬ P i' j
theorem rigK_start {P : Nat → Nat → Prop} {j : Nat} : RigK P j 0 ↔ RigL P j := ⟨fun h => h.1, fun h => ⟨h, fun i hi => by omega⟩⟩
theorem rigK_end {P : Nat → Nat → Prop} {j : Nat} : RigK P j j ↔ RigL P (j + 1) := by
  constructor
  · intro h j' hj i hi
    by_cases e : j' = j
    · subst e; exact h.2 i hi
    · exact h.1 j' (by omega) i hi
  · exact fun h => ⟨fun j' hj => h j' (by omega), h j (by omega)⟩
theorem rigL_skip {P : Nat → Nat → Prop} {j : Nat} (h : ∀ i, ¬ P i j) : RigL P (j + 1) ↔ RigL P j := by
  rw [← rigK_end]
  exact ⟨fun g => g.1, fun g => ⟨g, fun i _ => h i⟩⟩
theorem rigK_ok {P : Nat → Nat → Prop} {j i : Nat} (h : ¬ P i j) : RigK P j (i + 1) ↔ RigK P j i := by
  constructor
  · exact fun g => ⟨g.1, fun i' hi => g.2 i' (by omega)⟩
  · refine fun g => ⟨g.1, fun i' hi => ?_⟩
    by_cases e : i' = i
    · subst e; exact h
    · exact g.2 i' (by omega)
theorem rigK_bad {P : Nat → Nat → Prop} {j i : Nat} (h : P i j) : ¬ RigK P j (i + 1) := fun g => g.2 i (by omega) h
theorem rig_law {kd tx ky : Nat → Nat} {M : Nat} (hw : WFo kd tx M) (h1 : ∀ j, j < M → 1 ≤ tx j) : RigL (PairL kd tx ky (eaF kd tx M)) M ↔ ∀ j, j < M → ¬ Fault kd tx ky j := by
  constructor
  · intro h j hj hf
    obtain ⟨i, hi, hp⟩ := (pair_law hw h1 hj).1 hf
    exact h j hj i hi hp
  · intro h j hj i hi hp
    exact h j hj ((pair_law hw h1 hj).2 ⟨i, hi, hp⟩)
end Go.Proofs.YbulkdvbsGreat

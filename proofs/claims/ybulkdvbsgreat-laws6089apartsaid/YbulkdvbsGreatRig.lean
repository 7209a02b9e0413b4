/-
  rigorous: the plain part.
-/
import Derived.Test.YbulkdvbsGreatLast
import Derived.Test.YbulkdvbsGreatReads
namespace Go.Proofs.YbulkdvbsGreat

/-- A read or a write. -/
def Acc (k : Nat) : Prop := k = 114 ∨ k = 119
/-- A commit or an abort. -/
def Fin (k : Nat) : Prop := k = 99 ∨ k = 97
/-- t does not end between i and j. -/
def Alive (kd tx : Nat → Nat) (t i j : Nat) : Prop := ∀ e, i < e → e < j → ¬ (tx e = t ∧ Fin (kd e))
/-- Operation j comes ahead of the end of another that conflicts. -/
def Fault (kd tx ky : Nat → Nat) (j : Nat) : Prop := Acc (kd j) ∧ ∃ i, i < j ∧ Acc (kd i) ∧ tx i ≠ tx j ∧ ky i = ky j ∧ (kd i = 119 ∨ kd j = 119) ∧ Alive kd tx (tx i) i j
/-- f at one place. -/
def put1 {α : Type} (f : Nat → α) (t : Nat) (v : α) : Nat → α := fun s => if s = t then v else f s
theorem put1_at {α : Type} (f : Nat → α) (t : Nat) (v : α) : put1 f t v t = v := by simp [put1]
theorem put1_ne {α : Type} (f : Nat → α) {t s : Nat} (v : α) (h : s ≠ t) : put1 f t v s = f s := by simp [put1, h]

/-- What the keys are. -/
structure KH (kd ky : Nat → Nat) (wr : Nat → Prop) (num : Nat → Nat) (M : Nat) : Prop where
  hky : ∀ i, i < M → Acc (kd i) → ky i < 3
  hwr : ∀ i, i < M → kd i = 119 → wr (ky i)
  inj : ∀ a b, a < 3 → b < 3 → wr a → wr b → num a = num b → a = b

/-- The pass ahead of operation j. -/
structure RI (kd tx ky : Nat → Nat) (wr : Nat → Prop) (num : Nat → Nat) (j ids : Nat) (idf : Nat → Nat) (W R : Nat → List Nat) (own : Nat → Nat) (ct : Nat → Nat → Nat) : Prop where
  ok : ∀ i, i < j → ¬ Fault kd tx ky i
  idn : ∀ t, idf t ≤ ids
  inj : ∀ s t, idf s ≠ 0 → idf s = idf t → s = t
  nil : ∀ t, idf t = 0 → W t = [] ∧ R t = []
  wo : ∀ t x, idf t ≠ 0 → (x ∈ W t ↔ own x = idf t)
  ow : ∀ x, own x ≠ 0 → ∃ t, idf t = own x
  rc : ∀ t x, idf t ≠ 0 → ct x (idf t) = (R t).count x
  cr : ∀ x s, ct x s ≠ 0 → s ≠ 0 ∧ ∃ t, idf t = s
  wm : ∀ t x, x ∈ W t ↔ ∃ i, i < j ∧ tx i = t ∧ kd i = 119 ∧ num (ky i) = x ∧ Alive kd tx t i j
  rm : ∀ t x, x ∈ R t ↔ ∃ i, i < j ∧ tx i = t ∧ kd i = 114 ∧ wr (ky i) ∧ num (ky i) = x ∧ Alive kd tx t i j
  sz : ∀ t, (W t).length ≤ j ∧ (R t).length ≤ j

section
variable {kd tx ky : Nat → Nat} {wr : Nat → Prop} {num : Nat → Nat} {j ids M : Nat} {idf : Nat → Nat} {W R : Nat → List Nat} {own : Nat → Nat} {ct : Nat → Nat → Nat}

theorem RI.start : RI kd tx ky wr num 0 0 (fun _ => 0) (fun _ => []) (fun _ => []) (fun _ => 0) (fun _ _ => 0) where
  ok := fun i hi => by omega
  idn := fun t => Nat.le_refl _
  inj := fun s t h => absurd rfl h
  nil := fun t _ => ⟨rfl, rfl⟩
  wo := fun t x h => absurd rfl h
  ow := fun x h => absurd rfl h
  rc := fun t x h => absurd rfl h
  cr := fun x s h => absurd rfl h
  wm := fun t x => by simp
  rm := fun t x => by simp
  sz := fun t => by simp

theorem RI.openT (h : RI kd tx ky wr num j ids idf W R own ct) {t : Nat} (ht : idf t = 0) : RI kd tx ky wr num j (ids + 1) (put1 idf t (ids + 1)) W R own ct where
  ok := h.ok
  idn := fun s => by
    by_cases e : s = t
    · rw [e, put1_at]; exact Nat.le_refl _
    · rw [put1_ne _ _ e]; have := h.idn s; omega
  inj := fun s r hs he => by
    by_cases e : s = t
    · by_cases e' : r = t
      · rw [e, e']
      · rw [e, put1_at, put1_ne _ _ e'] at he; have := h.idn r; omega
    · by_cases e' : r = t
      · rw [e', put1_at, put1_ne _ _ e] at he; have := h.idn s; omega
      · rw [put1_ne _ _ e] at hs he; rw [put1_ne _ _ e'] at he; exact h.inj s r hs he
  nil := fun s hs => by
    by_cases e : s = t
    · rw [e, put1_at] at hs; omega
    · rw [put1_ne _ _ e] at hs; exact h.nil s hs
  wo := fun s x hs => by
    by_cases e : s = t
    · rw [e, put1_at, (h.nil t ht).1]
      constructor
      · intro q; simp at q
      · intro q
        obtain ⟨r, hr⟩ := h.ow x (by omega)
        have := h.idn r; omega
    · rw [put1_ne _ _ e] at hs ⊢; exact h.wo s x hs
  ow := fun x hx => by
    obtain ⟨r, hr⟩ := h.ow x hx
    exact ⟨r, by rw [put1_ne _ _ (fun e => by rw [e, ht] at hr; omega)]; exact hr⟩
  rc := fun s x hs => by
    by_cases e : s = t
    · rw [e, put1_at, (h.nil t ht).2]
      by_cases q : ct x (ids + 1) = 0
      · rw [q]; simp
      · obtain ⟨_, r, hr⟩ := h.cr x _ q
        have := h.idn r; omega
    · rw [put1_ne _ _ e] at hs ⊢; exact h.rc s x hs
  cr := fun x s hs => by
    obtain ⟨h0, r, hr⟩ := h.cr x s hs
    exact ⟨h0, r, by rw [put1_ne _ _ (fun e => by rw [e, ht] at hr; omega)]; exact hr⟩
  wm := h.wm
  rm := h.rm
  sz := h.sz

theorem alive_step {s i : Nat} (_hi : i < j) (h : ¬ (tx j = s ∧ Fin (kd j))) : Alive kd tx s i (j + 1) ↔ Alive kd tx s i j := by
  constructor
  · intro q e h1 h2; exact q e h1 (by omega)
  · intro q e h1 h2
    by_cases e' : e = j
    · rw [e']; exact h
    · exact q e h1 (by omega)
theorem alive_self : Alive kd tx (tx j) j (j + 1) := fun e h1 h2 => by omega

theorem RI.endT (h : RI kd tx ky wr num j ids idf W R own ct) {t : Nat} (_ht : idf t ≠ 0) (htx : tx j = t) (hk : Fin (kd j)) {own' : Nat → Nat} {ct' : Nat → Nat → Nat}
    (ho : ∀ x, own' x = if own x = idf t then 0 else own x) (hc : ∀ x s, ct' x s = if s = idf t then 0 else ct x s) :
    RI kd tx ky wr num (j + 1) ids (put1 idf t 0) (put1 W t []) (put1 R t []) own' ct' where
  ok := fun i hi => by
    by_cases e : i = j
    · rintro ⟨ha, _⟩; rw [e] at ha; rcases ha with q | q <;> rcases hk with r | r <;> omega
    · exact h.ok i (by omega)
  idn := fun s => by
    by_cases e : s = t
    · rw [e, put1_at]; exact Nat.zero_le _
    · rw [put1_ne _ _ e]; exact h.idn s
  inj := fun s r hs he => by
    by_cases e : s = t
    · rw [e, put1_at] at hs; exact absurd rfl hs
    · rw [put1_ne _ _ e] at hs he
      by_cases e' : r = t
      · rw [e', put1_at] at he; exact absurd he hs
      · rw [put1_ne _ _ e'] at he; exact h.inj s r hs he
  nil := fun s hs => by
    by_cases e : s = t
    · rw [e, put1_at, put1_at]; exact ⟨rfl, rfl⟩
    · rw [put1_ne _ _ e] at hs; rw [put1_ne _ _ e, put1_ne _ _ e]; exact h.nil s hs
  wo := fun s x hs => by
    by_cases e : s = t
    · rw [e, put1_at] at hs; exact absurd rfl hs
    · rw [put1_ne _ _ e] at hs; rw [put1_ne _ _ e, put1_ne _ _ e, ho x, h.wo s x hs]
      by_cases q : own x = idf t
      · rw [if_pos q]
        constructor
        · intro r; exact absurd (h.inj s t hs (by omega)) e
        · intro r; exact absurd r.symm hs
      · rw [if_neg q]
  ow := fun x hx => by
    rw [ho x] at hx ⊢
    by_cases q : own x = idf t
    · rw [if_pos q] at hx; exact absurd rfl hx
    · rw [if_neg q] at hx ⊢
      obtain ⟨r, hr⟩ := h.ow x hx
      exact ⟨r, by rw [put1_ne _ _ (fun e => q (by rw [← hr, e]))]; exact hr⟩
  rc := fun s x hs => by
    by_cases e : s = t
    · rw [e, put1_at] at hs; exact absurd rfl hs
    · rw [put1_ne _ _ e] at hs; rw [put1_ne _ _ e, put1_ne _ _ e, hc, if_neg (fun q => e (h.inj s t hs q))]; exact h.rc s x hs
  cr := fun x s hs => by
    rw [hc] at hs
    by_cases q : s = idf t
    · rw [if_pos q] at hs; exact absurd rfl hs
    · rw [if_neg q] at hs
      obtain ⟨h0, r, hr⟩ := h.cr x s hs
      exact ⟨h0, r, by rw [put1_ne _ _ (fun e => q (by rw [← hr, e]))]; exact hr⟩
  wm := fun s x => by
    by_cases e : s = t
    · rw [e, put1_at]
      constructor
      · intro q; simp at q
      · rintro ⟨i, h1, h2, h3, h4, h5⟩
        by_cases q : i = j
        · rw [q] at h3; rcases hk with r | r <;> omega
        · exact absurd ⟨htx, hk⟩ (h5 j (by omega) (by omega))
    · rw [put1_ne _ _ e, h.wm s x]
      constructor
      · rintro ⟨i, h1, h2, h3, h4, h5⟩
        exact ⟨i, by omega, h2, h3, h4, (alive_step h1 (fun q => e (by rw [← q.1, htx]))).2 h5⟩
      · rintro ⟨i, h1, h2, h3, h4, h5⟩
        have : i ≠ j := fun q => e (by rw [← h2, q, htx])
        exact ⟨i, by omega, h2, h3, h4, (alive_step (by omega) (fun q => e (by rw [← q.1, htx]))).1 h5⟩
  rm := fun s x => by
    by_cases e : s = t
    · rw [e, put1_at]
      constructor
      · intro q; simp at q
      · rintro ⟨i, h1, h2, h3, h4, h4', h5⟩
        by_cases q : i = j
        · rw [q] at h3; rcases hk with r | r <;> omega
        · exact absurd ⟨htx, hk⟩ (h5 j (by omega) (by omega))
    · rw [put1_ne _ _ e, h.rm s x]
      constructor
      · rintro ⟨i, h1, h2, h3, h4, h4', h5⟩
        exact ⟨i, by omega, h2, h3, h4, h4', (alive_step h1 (fun q => e (by rw [← q.1, htx]))).2 h5⟩
      · rintro ⟨i, h1, h2, h3, h4, h4', h5⟩
        have : i ≠ j := fun q => e (by rw [← h2, q, htx])
        exact ⟨i, by omega, h2, h3, h4, h4', (alive_step (by omega) (fun q => e (by rw [← q.1, htx]))).1 h5⟩
  sz := fun s => by
    by_cases e : s = t
    · rw [e, put1_at, put1_at]; simp
    · rw [put1_ne _ _ e, put1_ne _ _ e]; have := h.sz s; omega

theorem no_fin {k : Nat} (h : Acc k) : ¬ Fin k := by rcases h with r | r <;> (rintro (q | q) <;> omega)

/-- No other writer is open: the operation does not conflict with a write. -/
theorem RI.noW (h : RI kd tx ky wr num j ids idf W R own ct) {t : Nat} (_ht : idf t ≠ 0) (htx : tx j = t) (ho : own (num (ky j)) = 0 ∨ own (num (ky j)) = idf t) {i : Nat} (hi : i < j) (hk : kd i = 119) (hne : tx i ≠ tx j) (hky : ky i = ky j) (ha : Alive kd tx (tx i) i j) : False := by
  have hx : num (ky j) ∈ W (tx i) := (h.wm (tx i) _).2 ⟨i, hi, rfl, hk, by rw [hky], ha⟩
  have h0 : idf (tx i) ≠ 0 := fun q => by rw [(h.nil _ q).1] at hx; simp at hx
  have h1 := (h.wo _ _ h0).1 hx
  rcases ho with q | q
  · omega
  · exact hne (by rw [htx]; exact h.inj _ _ h0 (by omega))

theorem RI.readT (h : RI kd tx ky wr num j ids idf W R own ct) {t : Nat} (ht : idf t ≠ 0) (htx : tx j = t) (hk : kd j = 114) (hw : wr (ky j)) (ho : own (num (ky j)) = 0 ∨ own (num (ky j)) = idf t) :
    RI kd tx ky wr num (j + 1) ids idf W (put1 R t (R t ++ [num (ky j)])) own (ctSet ct (num (ky j)) (idf t) (ct (num (ky j)) (idf t) + 1)) where
  ok := fun i hi => by
    by_cases e : i = j
    · rintro ⟨_, a, h1, h2, h3, h4, h5, h6⟩
      rw [e] at h1 h3 h4 h5 h6
      exact h.noW ht htx ho h1 (by omega) h3 h4 h6
    · exact h.ok i (by omega)
  idn := h.idn
  inj := h.inj
  nil := fun s hs => by rw [put1_ne _ _ (fun e => ht (by rw [← e]; exact hs))]; exact h.nil s hs
  wo := h.wo
  ow := h.ow
  rc := fun s x hs => by
    by_cases e : s = t
    · subst e
      rw [put1_at, List.count_append, ← h.rc s x hs, List.count_singleton]
      unfold ctSet
      by_cases q : x = num (ky j)
      · simp [q]
      · simp [q]; exact fun r => q r.symm
    · rw [put1_ne _ _ e, ← h.rc s x hs]
      unfold ctSet
      rw [if_neg (fun q => e (h.inj s t hs q.2))]
  cr := fun x s hs => by
    unfold ctSet at hs
    by_cases q : x = num (ky j) ∧ s = idf t
    · exact ⟨by rw [q.2]; exact ht, t, q.2.symm⟩
    · rw [if_neg q] at hs; exact h.cr x s hs
  wm := fun s x => by
    rw [h.wm s x]
    constructor
    · rintro ⟨i, h1, h2, h3, h4, h5⟩
      exact ⟨i, by omega, h2, h3, h4, (alive_step h1 (fun q => no_fin (.inl hk) q.2)).2 h5⟩
    · rintro ⟨i, h1, h2, h3, h4, h5⟩
      have : i ≠ j := fun q => by rw [q] at h3; omega
      exact ⟨i, by omega, h2, h3, h4, (alive_step (by omega) (fun q => no_fin (.inl hk) q.2)).1 h5⟩
  rm := fun s x => by
    by_cases e : s = t
    · subst e
      rw [put1_at, List.mem_append, h.rm s x, List.mem_singleton]
      constructor
      · rintro (⟨i, h1, h2, h3, h4, h4', h5⟩ | q)
        · exact ⟨i, by omega, h2, h3, h4, h4', (alive_step h1 (fun q => no_fin (.inl hk) q.2)).2 h5⟩
        · exact ⟨j, by omega, htx, hk, hw, q.symm, htx ▸ alive_self⟩
      · rintro ⟨i, h1, h2, h3, h4, h4', h5⟩
        by_cases q : i = j
        · right; rw [← h4', q]
        · left; exact ⟨i, by omega, h2, h3, h4, h4', (alive_step (by omega) (fun q => no_fin (.inl hk) q.2)).1 h5⟩
    · rw [put1_ne _ _ e, h.rm s x]
      constructor
      · rintro ⟨i, h1, h2, h3, h4, h4', h5⟩
        exact ⟨i, by omega, h2, h3, h4, h4', (alive_step h1 (fun q => no_fin (.inl hk) q.2)).2 h5⟩
      · rintro ⟨i, h1, h2, h3, h4, h4', h5⟩
        have : i ≠ j := fun q => e (by rw [← h2, q, htx])
        exact ⟨i, by omega, h2, h3, h4, h4', (alive_step (by omega) (fun q => no_fin (.inl hk) q.2)).1 h5⟩
  sz := fun s => by
    by_cases e : s = t
    · subst e; rw [put1_at]; have := h.sz s; simp; omega
    · rw [put1_ne _ _ e]; have := h.sz s; omega

theorem RI.readN (h : RI kd tx ky wr num j ids idf W R own ct) (H : KH kd ky wr num M) (hj : j < M) (hk : kd j = 114) (hw : ¬ wr (ky j)) :
    RI kd tx ky wr num (j + 1) ids idf W R own ct where
  ok := fun i hi => by
    by_cases e : i = j
    · rintro ⟨_, a, h1, h2, h3, h4, h5, h6⟩
      rw [e] at h1 h3 h4 h5 h6
      exact hw (h4 ▸ H.hwr a (by omega) (by omega))
    · exact h.ok i (by omega)
  idn := h.idn
  inj := h.inj
  nil := h.nil
  wo := h.wo
  ow := h.ow
  rc := h.rc
  cr := h.cr
  wm := fun s x => by
    rw [h.wm s x]
    constructor
    · rintro ⟨i, h1, h2, h3, h4, h5⟩
      exact ⟨i, by omega, h2, h3, h4, (alive_step h1 (fun q => no_fin (.inl hk) q.2)).2 h5⟩
    · rintro ⟨i, h1, h2, h3, h4, h5⟩
      have : i ≠ j := fun q => by rw [q] at h3; omega
      exact ⟨i, by omega, h2, h3, h4, (alive_step (by omega) (fun q => no_fin (.inl hk) q.2)).1 h5⟩
  rm := fun s x => by
    rw [h.rm s x]
    constructor
    · rintro ⟨i, h1, h2, h3, h4, h4', h5⟩
      exact ⟨i, by omega, h2, h3, h4, h4', (alive_step h1 (fun q => no_fin (.inl hk) q.2)).2 h5⟩
    · rintro ⟨i, h1, h2, h3, h4, h4', h5⟩
      have : i ≠ j := fun q => hw (q ▸ h4)
      exact ⟨i, by omega, h2, h3, h4, h4', (alive_step (by omega) (fun q => no_fin (.inl hk) q.2)).1 h5⟩
  sz := fun s => by have := h.sz s; omega

theorem RI.noF (h : RI kd tx ky wr num j ids idf W R own ct) {t : Nat} (ht : idf t ≠ 0) (htx : tx j = t) (hw : wr (ky j)) (ho : own (num (ky j)) = 0 ∨ own (num (ky j)) = idf t) (hr : OnlyR (ct (num (ky j))) (idf t)) : ¬ Fault kd tx ky j := by
  rintro ⟨_, a, h1, h2, h3, h4, h5, h6⟩
  rcases h2 with q | q
  · have hx : num (ky j) ∈ R (tx a) := (h.rm (tx a) _).2 ⟨a, h1, rfl, q, by rw [h4]; exact hw, by rw [h4], h6⟩
    have h0 : idf (tx a) ≠ 0 := fun q => by rw [(h.nil _ q).2] at hx; simp at hx
    have hc := h.rc (tx a) (num (ky j)) h0
    have := List.count_pos_iff.2 hx
    have hz := hr (idf (tx a)) (fun e => h3 (by rw [htx]; exact h.inj _ _ h0 e))
    omega
  · exact h.noW ht htx ho h1 q h3 h4 h6

theorem RI.writeT (h : RI kd tx ky wr num j ids idf W R own ct) {t : Nat} (ht : idf t ≠ 0) (htx : tx j = t) (hk : kd j = 119) (hw : wr (ky j)) (ho : own (num (ky j)) = 0) (hr : OnlyR (ct (num (ky j))) (idf t)) :
    RI kd tx ky wr num (j + 1) ids idf (put1 W t (W t ++ [num (ky j)])) R (ownSet own (num (ky j)) (idf t)) ct where
  ok := fun i hi => by
    by_cases e : i = j
    · rw [e]; exact h.noF ht htx hw (.inl ho) hr
    · exact h.ok i (by omega)
  idn := h.idn
  inj := h.inj
  nil := fun s hs => by rw [put1_ne _ _ (fun e => ht (by rw [← e]; exact hs))]; exact h.nil s hs
  wo := fun s x hs => by
    unfold ownSet
    by_cases e : s = t
    · subst e
      rw [put1_at, List.mem_append, List.mem_singleton, h.wo s x hs]
      by_cases q : x = num (ky j)
      · simp [q]
      · simp [q]
    · rw [put1_ne _ _ e, h.wo s x hs]
      by_cases q : x = num (ky j)
      · rw [if_pos q, q, ho]
        constructor
        · intro r; omega
        · intro r; exact absurd (h.inj s t hs r.symm) e
      · rw [if_neg q]
  ow := fun x hx => by
    unfold ownSet at hx ⊢
    by_cases q : x = num (ky j)
    · rw [if_pos q]; exact ⟨t, rfl⟩
    · rw [if_neg q] at hx ⊢; exact h.ow x hx
  rc := h.rc
  cr := h.cr
  wm := fun s x => by
    by_cases e : s = t
    · subst e
      rw [put1_at, List.mem_append, h.wm s x, List.mem_singleton]
      constructor
      · rintro (⟨i, h1, h2, h3, h4, h5⟩ | q)
        · exact ⟨i, by omega, h2, h3, h4, (alive_step h1 (fun q => no_fin (.inr hk) q.2)).2 h5⟩
        · exact ⟨j, by omega, htx, hk, q.symm, htx ▸ alive_self⟩
      · rintro ⟨i, h1, h2, h3, h4, h5⟩
        by_cases q : i = j
        · right; rw [← h4, q]
        · left; exact ⟨i, by omega, h2, h3, h4, (alive_step (by omega) (fun q => no_fin (.inr hk) q.2)).1 h5⟩
    · rw [put1_ne _ _ e, h.wm s x]
      constructor
      · rintro ⟨i, h1, h2, h3, h4, h5⟩
        exact ⟨i, by omega, h2, h3, h4, (alive_step h1 (fun q => no_fin (.inr hk) q.2)).2 h5⟩
      · rintro ⟨i, h1, h2, h3, h4, h5⟩
        have : i ≠ j := fun q => e (by rw [← h2, q, htx])
        exact ⟨i, by omega, h2, h3, h4, (alive_step (by omega) (fun q => no_fin (.inr hk) q.2)).1 h5⟩
  rm := fun s x => by
    rw [h.rm s x]
    constructor
    · rintro ⟨i, h1, h2, h3, h4, h4', h5⟩
      exact ⟨i, by omega, h2, h3, h4, h4', (alive_step h1 (fun q => no_fin (.inr hk) q.2)).2 h5⟩
    · rintro ⟨i, h1, h2, h3, h4, h4', h5⟩
      have : i ≠ j := fun q => by rw [q] at h3; omega
      exact ⟨i, by omega, h2, h3, h4, h4', (alive_step (by omega) (fun q => no_fin (.inr hk) q.2)).1 h5⟩
  sz := fun s => by
    by_cases e : s = t
    · subst e; rw [put1_at]; have := h.sz s; simp; omega
    · rw [put1_ne _ _ e]; have := h.sz s; omega

theorem RI.writeN (h : RI kd tx ky wr num j ids idf W R own ct) {t : Nat} (ht : idf t ≠ 0) (htx : tx j = t) (hk : kd j = 119) (hw : wr (ky j)) (ho : own (num (ky j)) = idf t) (hr : OnlyR (ct (num (ky j))) (idf t)) :
    RI kd tx ky wr num (j + 1) ids idf W R own ct where
  ok := fun i hi => by
    by_cases e : i = j
    · rw [e]; exact h.noF ht htx hw (.inr ho) hr
    · exact h.ok i (by omega)
  idn := h.idn
  inj := h.inj
  nil := h.nil
  wo := h.wo
  ow := h.ow
  rc := h.rc
  cr := h.cr
  wm := fun s x => by
    constructor
    · intro q
      obtain ⟨i, h1, h2, h3, h4, h5⟩ := (h.wm s x).1 q
      exact ⟨i, by omega, h2, h3, h4, (alive_step h1 (fun q => no_fin (.inr hk) q.2)).2 h5⟩
    · rintro ⟨i, h1, h2, h3, h4, h5⟩
      by_cases q : i = j
      · have e : s = t := by rw [← h2, q, htx]
        rw [e, h.wo t x ht, ← h4, q, ho]
      · exact (h.wm s x).2 ⟨i, by omega, h2, h3, h4, (alive_step (by omega) (fun q => no_fin (.inr hk) q.2)).1 h5⟩
  rm := fun s x => by
    rw [h.rm s x]
    constructor
    · rintro ⟨i, h1, h2, h3, h4, h4', h5⟩
      exact ⟨i, by omega, h2, h3, h4, h4', (alive_step h1 (fun q => no_fin (.inr hk) q.2)).2 h5⟩
    · rintro ⟨i, h1, h2, h3, h4, h4', h5⟩
      have : i ≠ j := fun q => by rw [q] at h3; omega
      exact ⟨i, by omega, h2, h3, h4, h4', (alive_step (by omega) (fun q => no_fin (.inr hk) q.2)).1 h5⟩
  sz := fun s => by have := h.sz s; omega

/-- Another writer is open. -/
theorem RI.fault1 (h : RI kd tx ky wr num j ids idf W R own ct) (H : KH kd ky wr num M) (hj : j < M) {t : Nat} (htx : tx j = t) (hk : Acc (kd j)) (hw : wr (ky j)) (h0 : own (num (ky j)) ≠ 0) (h1 : own (num (ky j)) ≠ idf t) : Fault kd tx ky j := by
  obtain ⟨s, hs⟩ := h.ow _ h0
  have hx := (h.wo s (num (ky j)) (by omega)).2 hs.symm
  obtain ⟨i, hi, h2, h3, h4, h5⟩ := (h.wm s _).1 hx
  refine ⟨hk, i, hi, .inr h3, fun e => h1 (by rw [← hs, ← h2, e, htx]), ?_, .inl h3, h2 ▸ h5⟩
  exact H.inj _ _ (H.hky i (by omega) (.inr h3)) (H.hky j hj hk) (H.hwr i (by omega) h3) hw h4
/-- Another reader is open. -/
theorem RI.fault2 (h : RI kd tx ky wr num j ids idf W R own ct) (H : KH kd ky wr num M) (hj : j < M) {t : Nat} (htx : tx j = t) (hk : kd j = 119) (hr : ¬ OnlyR (ct (num (ky j))) (idf t)) : Fault kd tx ky j := by
  have : ∃ s, s ≠ idf t ∧ ct (num (ky j)) s ≠ 0 := by
    refine Classical.byContradiction fun q => hr fun s hs => ?_
    exact Classical.byContradiction fun r => q ⟨s, hs, r⟩
  obtain ⟨s, hs, hc⟩ := this
  obtain ⟨h0, r, hr'⟩ := h.cr _ _ hc
  have hz := h.rc r (num (ky j)) (by omega)
  have hx : num (ky j) ∈ R r := List.count_pos_iff.1 (by rw [← hz, hr']; omega)
  obtain ⟨i, hi, h2, h3, h4, h4', h5⟩ := (h.rm r _).1 hx
  refine ⟨.inr hk, i, hi, .inl h3, fun e => hs (by rw [← hr', ← h2, e, htx]), ?_, .inr hk, h2 ▸ h5⟩
  exact H.inj _ _ (H.hky i (by omega) (.inl h3)) (H.hky j hj (.inr hk)) h4 (H.hwr j hj hk) h4'
end
end Go.Proofs.YbulkdvbsGreat

/-
  order: the plain part: how many edges are still to come.
-/
import Derived.Test.YbulkdvbsGreatHeap2
import Derived.Test.YbulkdvbsGreatLay2
import Derived.Test.YbulkdvbsGreatPath
namespace Go.Proofs.YbulkdvbsGreat
open Go.RowKit

/-- How many of the m edges from a on lead to v. -/
def cr (next : Nat → Int) (v : Nat) : Nat → Nat → Nat
  | _, 0 => 0
  | a, m + 1 => (if next a = (v : Int) then 1 else 0) + cr next v (a + 1) m
theorem cr_snoc (next : Nat → Int) (v : Nat) : ∀ m a, cr next v a (m + 1) = cr next v a m + (if next (a + m) = (v : Int) then 1 else 0)
  | 0, a => by simp [cr]
  | m + 1, a => by
    show (if next a = (v : Int) then 1 else 0) + cr next v (a + 1) (m + 1) = (if next a = (v : Int) then 1 else 0) + cr next v (a + 1) m + _
    rw [cr_snoc next v m (a + 1), show a + 1 + m = a + (m + 1) by omega]; omega
theorem cr_le (next : Nat → Int) (v : Nat) : ∀ m a, cr next v a m ≤ m
  | 0, _ => Nat.le_refl _
  | m + 1, a => by
    show (if next a = (v : Int) then 1 else 0) + cr next v (a + 1) m ≤ m + 1
    have := cr_le next v m (a + 1)
    split <;> omega
/-- How many edges out of the first k nodes, but those of T, lead to v. -/
def sm (first : Nat → Nat) (next : Nat → Int) (T : Nat → Bool) (v : Nat) : Nat → Nat
  | 0 => 0
  | k + 1 => sm first next T v k + if T k then 0 else cr next v (first k) (first (k + 1) - first k)
theorem sm_congr {first : Nat → Nat} {next : Nat → Int} {T T' : Nat → Bool} (v : Nat) : ∀ k, (∀ x, x < k → T x = T' x) → sm first next T v k = sm first next T' v k
  | 0, _ => rfl
  | k + 1, h => by
    show sm first next T v k + _ = sm first next T' v k + _
    rw [sm_congr v k (fun x hx => h x (by omega)), h k (by omega)]
theorem sm_take {first : Nat → Nat} {next : Nat → Int} {T : Nat → Bool} (u v : Nat) (hu : T u = false) : ∀ k, u < k → sm first next T v k = sm first next (fun x => if x = u then true else T x) v k + cr next v (first u) (first (u + 1) - first u)
  | 0, h => by omega
  | k + 1, h => by
    show sm first next T v k + _ = sm first next (fun x => if x = u then true else T x) v k + _ + _
    by_cases e : u = k
    · subst e
      rw [sm_congr (T' := fun x => if x = u then true else T x) v u (fun x hx => by simp [show ¬ x = u by omega])]
      simp [hu]
    · have ih := sm_take (first := first) (next := next) u v hu k (by omega)
      rw [ih]
      simp only [show ¬ k = u by omega, if_false]
      omega
theorem sm_bound {first : Nat → Nat} {next : Nat → Int} {T : Nat → Bool} (v E : Nat) : ∀ k, (∀ i, i ≤ k → first i ≤ E) → sm first next T v k ≤ k * E
  | 0, _ => by simp [sm]
  | k + 1, h => by
    have ih := sm_bound (next := next) (T := T) v E k (fun i hi => h i (by omega))
    have h1 := cr_le next v (first (k + 1) - first k) (first k)
    have h2 := h (k + 1) (Nat.le_refl _)
    show sm first next T v k + _ ≤ (k + 1) * E
    rw [Nat.add_mul, Nat.one_mul]
    split <;> omega

/-- 'make([]T, 0, n)'. -/
theorem run_mk0o (t e : TypeId) (z : Value) (b : Nat) (ht : Ybaz.prog.underlying t = some (.slice e)) (hinf : ∃ i, Ybaz.prog.info? e = some i ∧ i.zero = some z ∧ i.size = 1 ∧ i.bytes = b) (hb : b ≤ 1024) (w : World) (n : Nat) (hn : n ≤ 2097152) :
    (opMk t (.int .i64 0) (.int .i64 n)).run Ybaz.prog w = .ok (.value (.slice (some ⟨w.heap.size, 0, none⟩) 0 n)) (w.alloc (.cells (mc z 1 n) e)) := by
  obtain ⟨i, hi, hz', hs, hb'⟩ := hinf
  have hbn : ((i.bytes : Nat) : Int) * (n : Int) ≤ 281474976710656 := by
    have : i.bytes * n ≤ 1024 * 2097152 := Nat.mul_le_mul (by omega) hn
    have h2 : ((i.bytes * n : Nat) : Int) ≤ 281474976710656 := by omega
    rwa [Int.natCast_mul] at h2
  have h := run_make (P := Ybaz.prog) w t e i _ ht hi hz' .i64 .i64 0 n (by omega) (by omega) hbn (by omega)
  unfold opMk
  rw [Sem.run_bind, h, hs]
  simp [mc]
theorem Vec.mk0o (w : World) (e : TypeId) (z : Value) (n : Nat) (hz : z.cells = #[z]) (hn : n ≤ 2097152) (f : Nat → Nat → Value) : Vec (w.alloc (.cells (mc z 1 n) e)) e 1 (some ⟨w.heap.size, 0, none⟩) 0 n f :=
  ((Vec.mk1 w e z n hz hn).take 0 (Nat.zero_le _)).congr Nat.one_pos (fun i _ hi _ => by omega)
/-- How the choice of an order stands: T taken, the k nodes f in the heap, ol listed. -/
structure OS (n : Nat) (first : Nat → Nat) (next : Nat → Int) (p : Nat → Nat) (T : Nat → Bool) (D : Nat → Prop) (ol k : Nat) (f : Nat → Nat) (a m : Nat) : Prop where
  pr : ∀ v, v < n → p v = sm first next T v n + cr next v a m
  nm : @num D (fun x => Classical.propDecidable (D x)) n = ol + k
  dz : ∀ x, x < n → D x → p x = 0
  hp : ∀ i, i < k → f i < n ∧ D (f i) ∧ T (f i) = false
  inj : ∀ i j, i < k → j < k → f i = f j → i = j
  td : ∀ x, x < n → T x = true → D x
theorem OS.shuf {n : Nat} {first : Nat → Nat} {next : Nat → Int} {p : Nat → Nat} {T : Nat → Bool} {D : Nat → Prop} {ol k : Nat} {f g : Nat → Nat} {a m : Nat} (h : OS n first next p T D ol k f a m) (s : Shuf k f g) : OS n first next p T D ol k g a m := by
  obtain ⟨σ, ⟨q, hq⟩, hg⟩ := s
  refine ⟨h.pr, h.nm, h.dz, fun i hi => by rw [hg i hi]; exact h.hp _ (hq i hi).1, fun i j hi hj e => ?_, h.td⟩
  rw [hg i hi, hg j hj] at e
  have := h.inj _ _ (hq i hi).1 (hq j hj).1 e
  have h1 := (hq i hi).2.2.1
  have h2 := (hq j hj).2.2.1
  rw [this] at h1
  omega
/-- The last of the heap is taken. -/
theorem OS.pop {n : Nat} {first : Nat → Nat} {next : Nat → Int} {p : Nat → Nat} {T : Nat → Bool} {D : Nat → Prop} {ol k : Nat} {f : Nat → Nat} {a : Nat} (h : OS n first next p T D ol (k + 1) f a 0) :
    OS n first next p (fun x => if x = f k then true else T x) D (ol + 1) k f (first (f k)) (first (f k + 1) - first (f k)) := by
  obtain ⟨u1, u2, u3⟩ := h.hp k (by omega)
  refine ⟨fun v hv => ?_, by rw [h.nm]; omega, h.dz, fun i hi => ?_, fun i j hi hj => h.inj i j (by omega) (by omega), fun x hx hT => ?_⟩
  · rw [h.pr v hv, sm_take (f k) v u3 n u1]; simp [cr]
  · obtain ⟨i1, i2, i3⟩ := h.hp i (by omega)
    have : f i ≠ f k := fun e => by have := h.inj i k (by omega) (by omega) e; omega
    exact ⟨i1, i2, by simp [this, i3]⟩
  · by_cases e : x = f k
    · subst e; exact u2
    · simp [e] at hT; exact h.td x hx hT
/-- An edge is looked at. -/
theorem OS.edge {n : Nat} {first : Nat → Nat} {next : Nat → Int} {p : Nat → Nat} {T : Nat → Bool} {D : Nat → Prop} {ol k : Nat} {f : Nat → Nat} {a m : Nat} (h : OS n first next p T D ol k f a (m + 1)) (v : Nat) (hv : v < n) (he : next a = (v : Int)) :
    1 ≤ p v ∧ ¬ D v ∧ OS n first next (fun x => if x = v then p v - 1 else p x) T D ol k f (a + 1) m := by
  have hpv : p v = sm first next T v n + (1 + cr next v (a + 1) m) := by
    rw [h.pr v hv]
    show _ + ((if next a = (v : Int) then 1 else 0) + cr next v (a + 1) m) = _
    rw [if_pos he]
  have hnd : ¬ D v := fun hd => by have := h.dz v hv hd; omega
  refine ⟨by omega, hnd, fun x hx => ?_, h.nm, fun x hx hd => ?_, h.hp, h.inj, h.td⟩
  · by_cases e : x = v
    · subst e; simp only [if_true]; omega
    · simp only [e, if_false]
      rw [h.pr x hx]
      show _ + ((if next a = (x : Int) then 1 else 0) + cr next x (a + 1) m) = _
      rw [if_neg (by omega)]; omega
  · by_cases e : x = v
    · subst e; exact absurd hd hnd
    · simp only [e, if_false]; exact h.dz x hx hd
/-- A node is pushed. -/
theorem OS.push {n : Nat} {first : Nat → Nat} {next : Nat → Int} {p : Nat → Nat} {T : Nat → Bool} {D : Nat → Prop} {ol k : Nat} {f : Nat → Nat} {a m : Nat} (h : OS n first next p T D ol k f a m) (v : Nat) (hv : v < n) (hd : ¬ D v) (hz : p v = 0) :
    OS n first next p T (fun x => x = v ∨ D x) ol (k + 1) (fun i => if i = k then v else f i) a m := by
  have hn : @num (fun x => x = v ∨ D x) (fun x => Classical.propDecidable _) n = @num D (fun x => Classical.propDecidable (D x)) n + 1 := @num_set D (fun x => x = v ∨ D x) (fun x => Classical.propDecidable _) (fun x => Classical.propDecidable _) v (fun i hi => by simp [hi]) hd (.inl rfl) n hv
  have hT : T v = false := by
    cases q : T v with
    | false => rfl
    | true => exact absurd (h.td v hv q) hd
  refine ⟨h.pr, by rw [hn, h.nm]; omega, fun x hx hd' => ?_, fun i hi => ?_, fun i j hi hj e => ?_, fun x hx hT => .inr (h.td x hx hT)⟩
  · rcases hd' with rfl | hd'
    · exact hz
    · exact h.dz x hx hd'
  · by_cases e : i = k
    · simp only [e, if_true]; exact ⟨hv, .inl trivial, hT⟩
    · simp only [e, if_false]
      obtain ⟨i1, i2, i3⟩ := h.hp i (by omega)
      exact ⟨i1, .inr i2, i3⟩
  · by_cases e1 : i = k
    · by_cases e2 : j = k
      · omega
      · simp only [e1, e2, if_true, if_false] at e
        exact absurd (by rw [e]; exact (h.hp j (by omega)).2.1) hd
    · by_cases e2 : j = k
      · simp only [e1, e2, if_true, if_false] at e
        exact absurd (by rw [← e]; exact (h.hp i (by omega)).2.1) hd
      · simp only [e1, e2, if_false] at e
        exact h.inj i j (by omega) (by omega) e
end Go.Proofs.YbulkdvbsGreat

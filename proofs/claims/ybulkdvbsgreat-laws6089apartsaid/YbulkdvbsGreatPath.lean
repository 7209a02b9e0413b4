/-
  The search for a path, walked.
-/
import Derived.Test.YbulkdvbsGreatSearch
import Derived.Deep.LoopGhost
namespace Go.Proofs.YbulkdvbsGreat
open Go.RowKit

/-- How many of the first k are in R. -/
def num (R : Nat → Prop) [(k : Nat) → Decidable (R k)] : Nat → Nat
  | 0 => 0
  | k + 1 => num R k + if R k then 1 else 0
theorem num_le (R : Nat → Prop) [(k : Nat) → Decidable (R k)] : ∀ n, num R n ≤ n
  | 0 => Nat.le_refl _
  | k + 1 => by
    have := num_le R k
    unfold num
    split <;> omega
theorem num_congr {R S : Nat → Prop} [(k : Nat) → Decidable (R k)] [(k : Nat) → Decidable (S k)] : ∀ n, (∀ i, i < n → (R i ↔ S i)) → num R n = num S n
  | 0, _ => rfl
  | k + 1, h => by
    unfold num
    rw [num_congr k (fun i hi => h i (by omega))]
    have := h k (by omega)
    by_cases q : R k
    · rw [if_pos q, if_pos (this.1 q)]
    · rw [if_neg q, if_neg (fun q' => q (this.2 q'))]
theorem num_set {R S : Nat → Prop} [(k : Nat) → Decidable (R k)] [(k : Nat) → Decidable (S k)] (v : Nat) (hS : ∀ i, i ≠ v → (R i ↔ S i)) (hv : ¬ R v) (hv' : S v) : ∀ n, v < n → num S n = num R n + 1
  | 0, h => by omega
  | k + 1, h => by
    unfold num
    by_cases e : v = k
    · subst e
      rw [num_congr v (fun i hi => (hS i (by omega)).symm), if_pos hv', if_neg hv]
    · have := num_set v hS hv hv' k (by omega)
      have q := hS k (by omega)
      by_cases q1 : R k
      · rw [if_pos q1, if_pos (q.1 q1)]; omega
      · rw [if_neg q1, if_neg (fun q' => q1 (q.2 q'))]; omega
theorem num_all {R : Nat → Prop} [(k : Nat) → Decidable (R k)] : ∀ n, num R n = n → ∀ i, i < n → R i
  | 0, _, i, hi => by omega
  | k + 1, h, i, hi => by
    have hk := num_le R k
    unfold num at h
    by_cases q : R k
    · rw [if_pos q] at h
      by_cases e : i = k
      · subst e; exact q
      · exact num_all k (by omega) i (by omega)
    · rw [if_neg q] at h; omega

/-- The searcher's own blocks. -/
def sOwn (S RE PA VI b : Nat) : Prop := b = S ∨ b = RE ∨ b = PA ∨ b = VI
/-- The laid out graph's blocks. -/
def gBlk (G : Nat) (ga : Option Addr) (FB NX KN n : Nat) (ah : Value) (b : Nat) : Prop := b = G ∨ ga = some ⟨b, 0, none⟩ ∨ b = FB ∨ b = NX ∨ b = KN ∨ ah = .slice (some ⟨b, 0, none⟩) n n
theorem GL.keepB {w w' : World} {G n E : Nat} {la : Option Addr} {lc : Nat} {ga : Option Addr} {gc FB NX KN : Nat} {ah : Value} {first : Nat → Nat} {next kd : Nat → Int} (h : GL w G n E la lc ga gc FB NX KN ah first next kd) {F : Nat → Prop} (k : Keep F w w') (hF : ∀ b, gBlk G ga FB NX KN n ah b → ¬ F b) : GL w' G n E la lc ga gc FB NX KN ah first next kd :=
  h.keep k (hF _ (.inl rfl)) (fun b hb => hF b (.inr (.inl hb))) (hF _ (.inr (.inr (.inl rfl)))) (hF _ (.inr (.inr (.inr (.inl rfl))))) (hF _ (.inr (.inr (.inr (.inr (.inl rfl))))))
theorem Ah.keep {w w' : World} {n : Nat} {ah : Value} {ok : Bool} (h : Ah w n ah ok) {F : Nat → Prop} (k : Keep F w w') (hF : ∀ b, ah = .slice (some ⟨b, 0, none⟩) n n → ¬ F b) : Ah w' n ah ok := by
  rcases h with h | ⟨h1, AH, h2, h3, h4⟩
  · exact .inl h
  · exact .inr ⟨h1, AH, h2, h3.keep (k.block AH h4 (hF AH h2)), Nat.lt_of_lt_of_le h4 k.size⟩
theorem SR.keep {w w' : World} {S G n : Nat} {k : Int} {RE PA VI : Nat} {re pa vi : Nat → Int} (h : SR w S G n k RE PA VI re pa vi) {F : Nat → Prop} (kp : Keep F w w') (hF : ∀ b, sOwn S RE PA VI b → ¬ F b) : SR w' S G n k RE PA VI re pa vi := by
  obtain ⟨l1, l2, l3⟩ := h.lt
  have := kp.size
  exact ⟨kp.at h.blk (hF _ (.inl rfl)), h.rr.keep (kp.block RE l1 (hF _ (.inr (.inl rfl)))), h.rp.keep (kp.block PA l2 (hF _ (.inr (.inr (.inl rfl))))), h.rv.keep (kp.block VI l3 (hF _ (.inr (.inr (.inr rfl))))), ⟨by omega, by omega, by omega⟩, h.ne⟩
/-- A node is reached. -/
theorem SR.reach {w : World} {S G n : Nat} {k : Int} {RE PA VI : Nat} {re pa vi : Nat → Int} (h : SR w S G n k RE PA VI re pa vi) (v : Nat) (hv : v < n) (p d : Int) :
    SR (((w.setCell ⟨RE, v, none⟩ (.int .i32 k)).setCell ⟨PA, v, none⟩ (.int .i32 p)).setCell ⟨VI, v, none⟩ (.int .u8 d)) S G n k RE PA VI (fun i => if i = v then k else re i) (fun i => if i = v then p else pa i) (fun i => if i = v then d else vi i) ∧
      Keep (sOwn S RE PA VI) w (((w.setCell ⟨RE, v, none⟩ (.int .i32 k)).setCell ⟨PA, v, none⟩ (.int .i32 p)).setCell ⟨VI, v, none⟩ (.int .u8 d)) := by
  obtain ⟨n1, n2, n3, n4, n5, n6⟩ := h.ne
  obtain ⟨l1, l2, l3⟩ := h.lt
  have k1 := Keep.setCell w ⟨RE, v, none⟩ (.int .i32 k)
  have k2 := Keep.setCell (w.setCell ⟨RE, v, none⟩ (.int .i32 k)) ⟨PA, v, none⟩ (.int .i32 p)
  have k3 := Keep.setCell ((w.setCell ⟨RE, v, none⟩ (.int .i32 k)).setCell ⟨PA, v, none⟩ (.int .i32 p)) ⟨VI, v, none⟩ (.int .u8 d)
  have s1 := k1.size
  have s2 := k2.size
  have s3 := k3.size
  refine ⟨⟨k3.at (k2.at (k1.at h.blk n1) n2) n3, ?_, ?_, ?_, ⟨by omega, by omega, by omega⟩, h.ne⟩, ?_⟩
  · exact (((h.rr.set v _ hv).keep (k2.block RE (by omega) n4)).keep (k3.block RE (by omega) n5)).congr (fun i _ => by split <;> rfl)
  · exact (((h.rp.keep (k1.block PA (by omega) (fun q => n4 q.symm))).set v _ hv).keep (k3.block PA (by omega) n6)).congr (fun i _ => by split <;> rfl)
  · exact (((h.rv.keep (k1.block VI (by omega) (fun q => n5 q.symm))).keep (k2.block VI (by omega) (fun q => n6 q.symm))).set v _ hv).congr (fun i _ => by split <;> rfl)
  · exact ((k1.wide (fun b q => .inr (.inl q))).trans k2 (fun b q => .inl (.inr (.inr (.inl q))))).trans k3 (fun b q => .inl (.inr (.inr (.inr q))))

/-- What has been reached hangs together. -/
structure Found (n : Nat) (K : Int) (re pa : Nat → Int) (R : Nat → Prop) (dep : Nat → Nat) (q : Prop) (from_ : Nat) : Prop where
  hR : ∀ v, R v → v < n ∧ re v = K ∧ dep v < num (fun i => re i = K) n ∧ (pa v = -1 ∨ ∃ p : Nat, pa v = (p : Int) ∧ R p ∧ dep p < dep v)
  fr : q → ∀ v, v < n → re v = K → R v
  fm : R from_
theorem Found.more {n : Nat} {K : Int} {re pa : Nat → Int} {R : Nat → Prop} {dep : Nat → Nat} {q : Prop} {from_ : Nat} (h : Found n K re pa R dep q from_) (u v : Nat) (hu : R u) (hv : v < n) (hne : re v ≠ K) :
    Found n K (fun i => if i = v then K else re i) (fun i => if i = v then (u : Int) else pa i) (fun i => i = v ∨ R i) (fun i => if i = v then num (fun i => re i = K) n else dep i) q from_ ∧ num (fun i => (if i = v then K else re i) = K) n = num (fun i => re i = K) n + 1 := by
  have hn : num (fun i => (if i = v then K else re i) = K) n = num (fun i => re i = K) n + 1 := num_set v (fun i hi => by simp [hi]) hne (by simp) n hv
  have huv : u ≠ v := fun e => by subst e; exact hne (h.hR u hu).2.1
  have ne : ∀ x, R x → x ≠ v := fun x hx e => by subst e; exact hne (h.hR x hx).2.1
  refine ⟨⟨fun x hx => ?_, fun hq x hx he => ?_, .inr h.fm⟩, hn⟩
  · by_cases e : x = v
    · subst e
      simp only [if_true]
      refine ⟨hv, trivial, by omega, .inr ⟨u, rfl, .inr hu, ?_⟩⟩
      rw [if_neg huv]; exact (h.hR u hu).2.2.1
    · simp only [e, if_false]
      rcases hx with hx | hx
      · exact absurd hx e
      · obtain ⟨h1, h2, h3, h4⟩ := h.hR x hx
        refine ⟨h1, h2, by omega, ?_⟩
        rcases h4 with h4 | ⟨p, h5, h6, h7⟩
        · exact .inl h4
        · exact .inr ⟨p, h5, .inr h6, by rw [if_neg (ne p h6)]; exact h7⟩
  · by_cases e : x = v
    · exact .inl e
    · simp only [e, if_false] at he
      exact .inr (h.fr hq x hx he)
theorem Found.start (n : Nat) (K : Int) (re pa : Nat → Int) (q : Prop) (from_ : Nat) (hf : from_ < n) (hq : q → ∀ v, v < n → re v ≠ K) : Found n K (fun i => if i = from_ then K else re i) (fun i => if i = from_ then -1 else pa i) (fun i => i = from_) (fun _ => 0) q from_ := by
  refine ⟨fun v hv => ?_, fun h v hv he => ?_, rfl⟩
  · subst hv
    simp only [if_true]
    refine ⟨hf, trivial, ?_, .inl trivial⟩
    by_cases e : num (fun i => (if i = v then K else re i) = K) n = 0
    · exfalso
      have : ∀ k, k ≤ n → num (fun i => (if i = v then K else re i) = K) k = 0 → ¬ v < k := by
        intro k
        induction k with
        | zero => intro _ _ h; omega
        | succ k ih =>
          intro hk h0 hvk
          unfold num at h0
          by_cases e : v = k
          · subst e; simp at h0
          · exact ih (by omega) (by omega) (by omega)
      exact this n (Nat.le_refl _) e hf
    · omega
  · by_cases e : v = from_
    · exact e
    · simp only [e, if_false] at he
      exact absurd he (hq h v hv)
end Go.Proofs.YbulkdvbsGreat

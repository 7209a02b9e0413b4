/-
  rigorous: lastWriters.set, walked.
-/
import Derived.Test.YbulkdvbsGreatLast
namespace Go.Proofs.YbulkdvbsGreat
open Go.RowKit

theorem LWs.inner' {w0 : World} {LB LO HI m : Nat} {own : Nat → Nat} {w : World} (h : LWs w0 LB LO HI m own w) (s : Nat) (hs : s < m) (a b : Int) : LWs w0 LB LO HI m own (((w.setCell ⟨HI, s, none⟩ (.int .i64 b)).setCell ⟨LO, s, none⟩ (.int .i64 a)).drew) := by
  obtain ⟨f, g, r, hf, hg⟩ := h.t.raw
  obtain ⟨r1, k1⟩ := r.sethi s (by omega) b
  obtain ⟨r2, k2⟩ := r1.setlo s (by omega) a
  have r3 := r2.drew
  refine ⟨⟨r3.blk, ⟨_, r3.lo, fun x hx => ?_⟩, ⟨_, r3.hi, fun x hx => ?_⟩, r3.lt, r3.ne⟩, ((h.k.trans k1 (fun _ q => .inl q)).trans k2 (fun _ q => .inl q)).drew⟩
  · simp only [fset, show ¬ m + x = s by omega, if_false]; exact hf x hx
  · simp only [fset, show ¬ m + x = s by omega, if_false]; exact hg x hx
/-- What lies in a cell, as a letter. -/
def cellv (w : World) (b o : Nat) : Value := (w.cell? ⟨b, o, none⟩).getD (.int .i64 0)
theorem cellv_of {w : World} {b o : Nat} {u : Value} (h : w.cell? ⟨b, o, none⟩ = some u) : w.cell? ⟨b, o, none⟩ = some (cellv w b o) := by rw [cellv, h]; rfl
/-- The writers while an inner place is laid: what is read, and what the stores do. -/
structure LX (w : World) (LB LO HI m : Nat) (own : Nat → Nat) (A : Nat) (a1 a2 b1 b2 : Int) (w' : World) : Prop where
  ex : ∃ f g, LWr w' LB LO HI m f g ∧ (∀ x, x < m → f (m + x) = if own x = 0 then maxI else (own x : Int)) ∧ (∀ x, x < m → g (m + x) = (own x : Int)) ∧ f A = a1 ∧ f (A + 1) = a2 ∧ g A = b1 ∧ g (A + 1) = b2
  k : Keep (fun k => k = LO ∨ k = HI) w w'
section
variable {w : World} {LB LO HI m : Nat} {own : Nat → Nat} {A : Nat} {a1 a2 b1 b2 : Int} {w' : World}
theorem LX.lo (h : LX w LB LO HI m own A a1 a2 b1 b2 w') (s : Nat) (hs : s < m) (hA : s < A) (v : Int) : LX w LB LO HI m own A a1 a2 b1 b2 (w'.setCell ⟨LO, s, none⟩ (.int .i64 v)) := by
  obtain ⟨f, g, r, hf, hg, e1, e2, e3, e4⟩ := h.ex
  obtain ⟨r1, k1⟩ := r.setlo s (by omega) v
  refine ⟨⟨_, _, r1, fun x hx => ?_, hg, ?_, ?_, e3, e4⟩, h.k.trans k1 (fun _ q => .inl q)⟩
  · simp only [fset, show ¬ m + x = s by omega, if_false]; exact hf x hx
  · simp only [fset, show ¬ A = s by omega, if_false]; exact e1
  · simp only [fset, show ¬ A + 1 = s by omega, if_false]; exact e2
theorem LX.hi (h : LX w LB LO HI m own A a1 a2 b1 b2 w') (s : Nat) (hs : s < m) (hA : s < A) (v : Int) : LX w LB LO HI m own A a1 a2 b1 b2 (w'.setCell ⟨HI, s, none⟩ (.int .i64 v)) := by
  obtain ⟨f, g, r, hf, hg, e1, e2, e3, e4⟩ := h.ex
  obtain ⟨r1, k1⟩ := r.sethi s (by omega) v
  refine ⟨⟨_, _, r1, hf, fun x hx => ?_, e1, e2, ?_, ?_⟩, h.k.trans k1 (fun _ q => .inl q)⟩
  · simp only [fset, show ¬ m + x = s by omega, if_false]; exact hg x hx
  · simp only [fset, show ¬ A = s by omega, if_false]; exact e3
  · simp only [fset, show ¬ A + 1 = s by omega, if_false]; exact e4
theorem LX.all (h : LX w LB LO HI m own A a1 a2 b1 b2 w') (s : Nat) (hs : s < m) (hA : A + 1 < m + m) :
    w'.cell? ⟨LB, 0, none⟩ = some (.slice (some ⟨LO, 0, none⟩) (m + m) (m + m)) ∧ w'.cell? ⟨LB, 1, none⟩ = some (.slice (some ⟨HI, 0, none⟩) (m + m) (m + m))
      ∧ w'.cell? ⟨LO, A, none⟩ = some (.int .i64 a1) ∧ w'.cell? ⟨LO, A + 1, none⟩ = some (.int .i64 a2) ∧ w'.cell? ⟨HI, A, none⟩ = some (.int .i64 b1) ∧ w'.cell? ⟨HI, A + 1, none⟩ = some (.int .i64 b2)
      ∧ w'.cell? ⟨LO, s, none⟩ = some (cellv w' LO (s)) ∧ w'.cell? ⟨HI, s, none⟩ = some (cellv w' HI (s))
      ∧ w'.frozen? ⟨LO, s, none⟩ = false ∧ w'.frozen? ⟨HI, s, none⟩ = false
      ∧ Hid (LX w LB LO HI m own A a1 a2 b1 b2 w') := by
  have hh := h
  obtain ⟨f, g, r, hf, hg, rfl, rfl, rfl, rfl⟩ := hh.ex
  exact ⟨cell_of _ _ 0 _ _ r.blk, cell_of _ _ 1 _ _ r.blk, r.lo.cell A (by omega), r.lo.cell (A + 1) (by omega), r.hi.cell A (by omega), r.hi.cell (A + 1) (by omega),
    cellv_of (r.lo.cell s (by omega)), cellv_of (r.hi.cell s (by omega)), r.lo.free s, r.hi.free s, h⟩
theorem LX.drew (h : LX w LB LO HI m own A a1 a2 b1 b2 w') : LX w LB LO HI m own A a1 a2 b1 b2 w'.drew := by
  obtain ⟨f, g, r, q⟩ := h.ex
  exact ⟨⟨f, g, r.drew, q⟩, h.k.drew⟩
theorem LX.out (h : LX w LB LO HI m own A a1 a2 b1 b2 w') : LWs w LB LO HI m own w' := by
  obtain ⟨f, g, r, hf, hg, _⟩ := h.ex
  exact ⟨⟨r.blk, ⟨_, r.lo, hf⟩, ⟨_, r.hi, hg⟩, r.lt, r.ne⟩, h.k⟩
end
set_option maxHeartbeats 8000000 in
set_option maxRecDepth 100000 in
/-- lastWriters.set. -/
theorem lwset_any (LB LO HI m x id : Nat) (own : Nat → Nat) (w : World) (h : LWt w LB LO HI m own) (hm : m ≤ 3) (hx : x < m) : Calls Ybaz.prog 44 #[.pointer (some ⟨LB, 0, none⟩), .int .i64 (x : Int), .int .i64 (id : Int)] w fun e w' => e = .returned (.tuple #[]) ∧ LWend w w' LB LO HI m (ownSet own x id) := by
  have m1 : (m : Int) ≤ 3 := by omega
  have i1 : (x : Int) < (m : Int) := by omega
  have d2 : ((m : Int) + (m : Int)).tdiv 2 = (m : Int) := by rw [Int.tdiv_eq_ediv_of_nonneg (by omega)]; omega
  have q2 : ((m : Int) + (x : Int)).toNat = m + x := by omega
  have q3 : (0 : Int) ≤ (m : Int) + (x : Int) := by omega
  have q4 : (m : Int) + (x : Int) < (m : Int) + (m : Int) := by omega
  have c0 : w.cell? ⟨LB, 0, none⟩ = some (.slice (some ⟨LO, 0, none⟩) (m + m) (m + m)) := cell_of _ _ 0 _ _ h.blk
  have c1 : w.cell? ⟨LB, 1, none⟩ = some (.slice (some ⟨HI, 0, none⟩) (m + m) (m + m)) := cell_of _ _ 1 _ _ h.blk
  obtain ⟨f, r, hf⟩ := h.lo
  obtain ⟨g, t, hg⟩ := h.hi
  have e0 := r.cell (m + x) (by omega)
  have f0 := r.free (m + x)
  have e1 := t.cell (m + x) (by omega)
  have f1 := t.free (m + x)
  have hne := h.ne
  have n1 := hne.1
  have n2 := hne.2.1
  have n3 := hne.2.2
  obtain ⟨s0, hs0⟩ : ∃ s0 : Nat, Hid (s0 = (m + x) / 2) := ⟨_, rfl⟩
  have q5 : ((m : Int) + (x : Int)).tdiv 2 = (s0 : Int) := by rw [Int.tdiv_eq_ediv_of_nonneg (by omega)]; have := hs0.out; omega
  have s1 : s0 < m := by have := hs0.out; omega
  have s2 : (s0 : Int) ≤ 3 := by omega
  have HH : Hid _ := h
  clear h r t hf hg hne
  go_enter Ybaz.func44, Ybaz.ntmps44
  go_upto_region 1 with fail
  go_region
  clear e0 f0 e1 f1
  obtain ⟨F, G, hr, hF, hG⟩ := HH.out.raw
  obtain ⟨r1, k1⟩ := hr.setlo (m + x) (by omega) id
  obtain ⟨r2, k2⟩ := r1.sethi (m + x) (by omega) id
  have HR : Hid _ := r2.drew
  have HK : Hid _ := (k1.trans k2 (fun _ q => .inl q)).drew
  have HL : Hid (∀ v : Int, ((id = 0 ∧ v = maxI) ∨ (id ≠ 0 ∧ v = (id : Int))) → ∀ y, y < m → fset F (m + x) v (m + y) = if ownSet own x id y = 0 then maxI else (ownSet own x id y : Int)) := fun v hv y hy => by
    by_cases e : y = x
    · subst e
      simp only [fset, ownSet, if_true]
      rcases hv with ⟨h1, h2⟩ | ⟨h1, h2⟩
      · simp [h1, h2]
      · simp [h1, h2]
    · simp only [fset, ownSet, e, show ¬ m + y = m + x by omega, if_false]
      exact hF y hy
  have HG2 : Hid (∀ y, y < m → fset G (m + x) id (m + y) = (ownSet own x id y : Int)) := fun y hy => by
    by_cases e : y = x
    · subst e; simp [fset, ownSet]
    · simp only [fset, ownSet, e, show ¬ m + y = m + x by omega, if_false]
      exact hG y hy
  clear r1 k1 r2 k2 hr hF hG HH c0 c1
  generalize (((w.setCell ⟨LO, m + x, none⟩ (.int .i64 (id : Int))).setCell ⟨HI, m + x, none⟩ (.int .i64 (id : Int))).drew) = w1 at *
  go_upto_if 30 with fail
  go_cut [6] from 30 to 36 (fun s wx => s = .int .i64 ((m : Int) + (x : Int)) ∧ Hid (LWs w LB LO HI m (ownSet own x id) wx))
  case first => as_aux_lemma =>
    by_cases hid : id = 0
    · subst hid
      have c0 : w1.cell? ⟨LB, 0, none⟩ = some (.slice (some ⟨LO, 0, none⟩) (m + m) (m + m)) := cell_of _ _ 0 _ _ HR.out.blk
      have e0 := HR.out.lo.cell (m + x) (by omega)
      have f0 := HR.out.lo.free (m + x)
      have HS : Hid (LWs w LB LO HI m (ownSet own x 0) (w1.setCell ⟨LO, m + x, none⟩ (.int .i64 9223372036854775807))) := by
        obtain ⟨r3, k3⟩ := HR.out.setlo (m + x) (by omega) 9223372036854775807
        refine ⟨⟨r3.blk, ⟨_, r3.lo, fun y hy => ?_⟩, ⟨_, r3.hi, HG2.out⟩, r3.lt, r3.ne⟩, HK.out.trans k3 (fun _ q => .inl q)⟩
        rw [← HL.out maxI (.inl ⟨rfl, rfl⟩) y hy]
        by_cases e : y = x
        · simp [fset, e, maxI]
        · simp only [fset, show ¬ m + y = m + x by omega, if_false]
      clear HR HK HL HG2
      go_wp2
      go_meet
      exact ⟨rfl, HS⟩
    · have hib : ((id : Int) == 0) = false := by simpa using hid
      have HS : Hid (LWs w LB LO HI m (ownSet own x id) w1) := ⟨⟨HR.out.blk, ⟨_, HR.out.lo, HL.out _ (.inr ⟨hid, rfl⟩)⟩, ⟨_, HR.out.hi, HG2.out⟩, HR.out.lt, HR.out.ne⟩, HK.out⟩
      clear HR HK HL HG2
      go_wp2
      go_meet
      exact ⟨rfl, HS⟩
  case rest => as_aux_lemma =>
    clear HR HK HL HG2
    obtain ⟨rfl, HS⟩ := hcut
    go_wp2
    go_loopw [6] (fun s wr => ∃ k : Nat, k < m ∧ s = .int .i64 (k : Int) ∧ Hid (LWs w LB LO HI m (ownSet own x id) wr)) (fun s _ => (intOf s).toNat)
    case atStart => exact ⟨s0, s1, by congr 1, HS⟩
    case round => as_aux_lemma =>
      clear HS
      obtain ⟨k, hk, rfl, HS⟩ := hrel
      cases k with
      | zero =>
        go_wp2
        go_end0
        exact ⟨rfl, HS.out.t, HS.out.k⟩
      | succ k =>
        have kc : ((k + 1 : Nat) : Int) = (k : Int) + 1 := by omega
        rw [kc]
        have k1 : (1 : Int) ≤ (k : Int) + 1 := by omega
        have k2 : (k : Int) + 1 < (m : Int) + (m : Int) := by omega
        have k3 : ((k : Int) + 1).toNat = k + 1 := by omega
        have k4 : (0 : Int) ≤ (k : Int) + 1 := by omega
        have c0 : wr.cell? ⟨LB, 0, none⟩ = some (.slice (some ⟨LO, 0, none⟩) (m + m) (m + m)) := cell_of _ _ 0 _ _ HS.out.t.blk
        have c1 : wr.cell? ⟨LB, 1, none⟩ = some (.slice (some ⟨HI, 0, none⟩) (m + m) (m + m)) := cell_of _ _ 1 _ _ HS.out.t.blk
        obtain ⟨f, g, r, hf, hg⟩ := HS.out.t.raw
        obtain ⟨A, hA⟩ : ∃ A : Nat, Hid (A = 2 * (k + 1)) := ⟨_, rfl⟩
        have a1' : (2 : Int) * ((k : Int) + 1) = (A : Int) := by have := hA.out; omega
        have a2 : (A : Int) < (m : Int) + (m : Int) := by have := hA.out; omega
        have a3 : (A : Int).toNat = A := by omega
        have a4 : (A : Int) + 1 < (m : Int) + (m : Int) := by have := hA.out; omega
        have a5 : ((A : Int) + 1).toNat = A + 1 := by omega
        have a6 : (0 : Int) ≤ (A : Int) + 1 := by omega
        have a7 : (A : Int) ≤ 6 := by omega
        have u1 : k + 1 < m := by omega
        have u2 : k + 1 < A := by have := hA.out; omega
        have u3 : A + 1 < m + m := by have := hA.out; omega
        have HX : Hid (LX w LB LO HI m (ownSet own x id) A (f A) (f (A + 1)) (g A) (g (A + 1)) wr.drew) := LX.drew ⟨⟨f, g, r, hf, hg, rfl, rfl, rfl, rfl⟩, HS.out.k⟩
        clear c0 c1 hf hg
        obtain ⟨s1', hs1'⟩ : ∃ s1' : Nat, Hid (s1' = (k + 1) / 2) := ⟨_, rfl⟩
        have q6 : ((k : Int) + 1).tdiv 2 = (s1' : Int) := by rw [Int.tdiv_eq_ediv_of_nonneg (by omega)]; have := hs1'.out; omega
        have q7 : (s1' : Int) ≤ 3 ∧ s1' < k + 1 ∧ s1' < m := by have := hs1'.out; omega
        obtain ⟨q7, q8, q9⟩ := q7
        generalize hf1 : f A = a1 at HX
        generalize hf2 : f (A + 1) = a2 at HX
        generalize hg1 : g A = b1 at HX
        generalize hg2 : g (A + 1) = b2 at HX
        have HS2 : Hid (∀ p q : Int, LWs w LB LO HI m (ownSet own x id) (((wr.setCell ⟨LO, k + 1, none⟩ (.int .i64 p)).setCell ⟨HI, k + 1, none⟩ (.int .i64 q)).drew)) := fun p q => HS.out.inner (k + 1) (by omega) p q
        have HS2' : Hid (∀ p q : Int, LWs w LB LO HI m (ownSet own x id) (((wr.setCell ⟨HI, k + 1, none⟩ (.int .i64 q)).setCell ⟨LO, k + 1, none⟩ (.int .i64 p)).drew)) := fun p q => HS.out.inner' (k + 1) (by omega) p q
        clear r HS hf1 hf2 hg1 hg2 f g
        have ww1 : IntKind.i64.wrap (2 * ((k : Int) + 1)) = (A : Int) := by rw [a1', IntKind.wrap_i64]; omega
        have ww0 : IntKind.i64.wrap (A : Int) = (A : Int) := by rw [IntKind.wrap_i64]; omega
        have a8 : (0 : Int) ≤ (A : Int) := by omega
        have ww2 : IntKind.i64.wrap ((A : Int) + 1) = (A : Int) + 1 := by rw [IntKind.wrap_i64]; omega
        go_upto_region 7 with fail
        go_region_held3 (fun w' => w'.cell? ⟨LB, 0, none⟩ = some (.slice (some ⟨LO, 0, none⟩) (m + m) (m + m)) ∧ w'.cell? ⟨LB, 1, none⟩ = some (.slice (some ⟨HI, 0, none⟩) (m + m) (m + m))
          ∧ w'.cell? ⟨LO, A, none⟩ = some (.int .i64 a1) ∧ w'.cell? ⟨LO, A + 1, none⟩ = some (.int .i64 a2) ∧ w'.cell? ⟨HI, A, none⟩ = some (.int .i64 b1) ∧ w'.cell? ⟨HI, A + 1, none⟩ = some (.int .i64 b2)
          ∧ w'.cell? ⟨LO, k + 1, none⟩ = some (cellv w' LO (k + 1)) ∧ w'.cell? ⟨HI, k + 1, none⟩ = some (cellv w' HI (k + 1))
          ∧ w'.frozen? ⟨LO, k + 1, none⟩ = false ∧ w'.frozen? ⟨HI, k + 1, none⟩ = false
          ∧ Hid (LX w LB LO HI m (ownSet own x id) A a1 a2 b1 b2 w')) (first | assumption | exact HX.out.all (k + 1) u1 u3 | (go_split_ands; first | exact (LX.lo (Hid.out (by assumption)) (k + 1) u1 u2 _).all (k + 1) u1 u3 | exact (LX.hi (Hid.out (by assumption)) (k + 1) u1 u2 _).all (k + 1) u1 u3)) (first
            | fail)
        all_goals
          first
          | (have HS3 : Hid _ := HS2.out (if a2 < a1 then a2 else a1) (if b1 < b2 then b2 else b1)
             generalize (((wr.setCell ⟨LO, k + 1, none⟩ (.int .i64 (if a2 < a1 then a2 else a1))).setCell ⟨HI, k + 1, none⟩ (.int .i64 (if b1 < b2 then b2 else b1))).drew) = w5 at HS3 ⊢)
          | (have HS3 : Hid _ := HS2'.out (if a2 < a1 then a2 else a1) (if b1 < b2 then b2 else b1)
             generalize (((wr.setCell ⟨HI, k + 1, none⟩ (.int .i64 (if b1 < b2 then b2 else b1))).setCell ⟨LO, k + 1, none⟩ (.int .i64 (if a2 < a1 then a2 else a1))).drew) = w5 at HS3 ⊢)
        all_goals clear HS2 HS2' HX ww0 ww1 ww2
        all_goals go_wp2
        all_goals go_roundw
        all_goals first
          | exact ⟨s1', q9, by go_num, HS3⟩
          | (simp [intOf]; omega)
end Go.Proofs.YbulkdvbsGreat

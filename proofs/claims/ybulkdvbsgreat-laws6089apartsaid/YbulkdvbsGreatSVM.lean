/-
  singleVersionReads: the words of memory of its first three passes.
-/
import Derived.Test.YbulkdvbsGreatSett
import Derived.Test.YbulkdvbsGreatROf
import Derived.Test.YbulkdvbsGreatMark
import Derived.Test.YbulkdvbsGreatBuck
namespace Go.Proofs.YbulkdvbsGreat
open Go.RowKit

/-- The first pass: keyAt, the writes' places. B is where the function's own memory begins. -/
structure SA (w : World) (B OB M oc EM KS NK N : Nat) (ka it : Nat → Nat) (wa : Option Addr) (wc : Nat) (wr : World) : Prop where
  k : Keep (fun _ => False) w wr
  hB : B = w.heap.size
  b3 : wr.heap[B]? = some (.cells #[.slice (some ⟨OB, 0, none⟩) M oc] 23)
  b4 : wr.heap[B + 1]? = some (.cells #[.map (some EM)] 46)
  b5 : wr.heap[B + 2]? = some (.cells #[.pointer (some ⟨KS, 0, none⟩)] 50)
  b8 : wr.heap[B + 4]? = some (.cells #[.slice (some ⟨B + 3, 0, none⟩) M M] 95)
  row : Row wr (B + 3) M (fun j => .int .i32 (ka j : Int))
  kl : ∀ j, ka j < NK ∨ ka j = 0
  vec : Vec wr 21 1 wa N wc (fun j _ => .int .i32 (it j : Int))
  il : ∀ j, j < N → it j < M
  nk : 0 < N → 0 < NK
  va : ∀ g, wa = some ⟨g, 0, none⟩ → B + 5 ≤ g
section
variable {w wr w' : World} {B OB M oc EM KS NK N : Nat} {ka it : Nat → Nat} {wa : Option Addr} {wc : Nat}
theorem SA.lt (h : SA w B OB M oc EM KS NK N ka it wa wc wr) : B + 5 ≤ wr.heap.size := heap_lt h.b8
theorem SA.quiet (h : SA w B OB M oc EM KS NK N ka it wa wc wr) (k : Keep (fun _ => False) wr w') : SA w B OB M oc EM KS NK N ka it wa wc w' :=
  { h with
    k := h.k.trans k (fun _ q => q.elim)
    b3 := k.at h.b3 id
    b4 := k.at h.b4 id
    b5 := k.at h.b5 id
    b8 := k.at h.b8 id
    row := h.row.keep (k.block _ (by have := h.lt; omega) id)
    vec := h.vec.keep k (fun _ _ => id) }
/-- A write's key is laid. -/
theorem SA.key (h : SA w B OB M oc EM KS NK N ka it wa wc wr) (i x : Nat) (hi : i < M) (hx : x < NK) : SA w B OB M oc EM KS NK N (put1 ka i x) it wa wc (wr.setCell ⟨B + 3, i, none⟩ (.int .i32 (x : Int))) := by
  have k := Keep.setCell wr ⟨B + 3, i, none⟩ (.int .i32 (x : Int))
  have hl := h.lt
  exact { h with
    k := h.k.trans k (fun b q => .inr (by have := h.hB; have : b = B + 3 := q; omega))
    b3 := k.at h.b3 (by show ¬ B = B + 3; omega)
    b4 := k.at h.b4 (by show ¬ B + 1 = B + 3; omega)
    b5 := k.at h.b5 (by show ¬ B + 2 = B + 3; omega)
    b8 := k.at h.b8 (by show ¬ B + 4 = B + 3; omega)
    row := (h.row.set i _ hi).congr (fun j _ => by
      by_cases e : j = i
      · simp [e, put1]
      · simp [e, put1])
    kl := fun j => by
      by_cases e : j = i
      · rw [e, put1_at]; exact .inl hx
      · rw [put1_ne _ _ e]; exact h.kl j
    vec := h.vec.keep k (fun g e => by show ¬ g = B + 3; have := h.va g e; omega) }
/-- A write's place is laid. -/
theorem SA.push (h : SA w B OB M oc EM KS NK N ka it wa wc wr) (i : Nat) (hi : i < M) (hN : 0 < NK) {g cap : Nat}
    (hv : Vec w' 21 1 (some ⟨g, 0, none⟩) (N + 1) cap (Go.Proofs.YbulkdvbsGreat.push N (fun j _ => .int .i32 (it j : Int)) (fun _ => .int .i32 (i : Int)))) (hk : Keep (fun b => wa = some ⟨b, 0, none⟩) wr w') (hg : wa = some ⟨g, 0, none⟩ ∨ wr.heap.size ≤ g) :
    SA w B OB M oc EM KS NK (N + 1) ka (put1 it N i) (some ⟨g, 0, none⟩) cap w' := by
  have hl := h.lt
  have nf : ∀ b, b < B + 5 → ¬ wa = some ⟨b, 0, none⟩ := fun b hb e => by have := h.va b e; omega
  exact { h with
    k := h.k.trans hk (fun b q => .inr (by have := h.hB; have := h.va b q; omega))
    b3 := hk.at h.b3 (nf _ (by omega))
    b4 := hk.at h.b4 (nf _ (by omega))
    b5 := hk.at h.b5 (nf _ (by omega))
    b8 := hk.at h.b8 (nf _ (by omega))
    row := h.row.keep (hk.block _ (by omega) (nf _ (by omega)))
    vec := hv.congr Nat.one_pos (fun j c _ _ => by
      unfold Go.Proofs.YbulkdvbsGreat.push put1
      by_cases e : j = N
      · simp [e]
      · simp [e])
    il := fun j hj => by
      by_cases e : j = N
      · rw [e, put1_at]; exact hi
      · rw [put1_ne _ _ e]; exact h.il j (by omega)
    nk := fun _ => hN
    va := fun g' e => by
      have e1 : g = g' := by injection e with q; injection q
      rw [← e1]
      rcases hg with q | q
      · exact h.va g q
      · omega }
end
/-- At the first pass's operation i. -/
def SA1 (w : World) (B OB M oc EM KS NK N i : Nat) (wa : Option Addr) (wc : Nat) (wr : World) : Prop := ∃ ka it, SA w B OB M oc EM KS NK N ka it wa wc wr ∧ N ≤ i
/-- What stands behind the first pass: C is where final, later begin. -/
structure E2 (w : World) (B OB M oc EM KS NK N : Nat) (ka : Nat → Nat) (SO ST : Nat) (so : Nat → Int) (st : Nat → Nat) (C : Nat) (wr : World) : Prop where
  k : Keep (fun _ => False) w wr
  hB : B = w.heap.size
  b3 : wr.heap[B]? = some (.cells #[.slice (some ⟨OB, 0, none⟩) M oc] 23)
  b4 : wr.heap[B + 1]? = some (.cells #[.map (some EM)] 46)
  b5 : wr.heap[B + 2]? = some (.cells #[.pointer (some ⟨KS, 0, none⟩)] 50)
  b8 : wr.heap[B + 4]? = some (.cells #[.slice (some ⟨B + 3, 0, none⟩) M M] 95)
  row : Row wr (B + 3) M (fun j => .int .i32 (ka j : Int))
  kl : ∀ j, ka j < NK ∨ ka j = 0
  nk : 0 < N → 0 < NK
  ro : Row wr SO N (fun i => .int .i32 (so i))
  rt : Row wr ST (NK + 1) (fun i => .int .i32 (st i : Int))
  sl : ∀ i, i < N → 0 ≤ so i ∧ so i < (if M = 0 then 1 else (M : Int))
  s4 : ∀ b, b < NK → st b ≤ st (b + 1)
  s5 : ∀ b, b ≤ NK → st b ≤ N
  bf : wr.heap[C + 1]? = some (.cells #[.slice (some ⟨C, 0, none⟩) M M] 86)
  bl : wr.heap[C + 3]? = some (.cells #[.map (some (C + 2))] 210)
  bC : B + 5 ≤ C
  so1 : SO < C
  st1 : ST < C
  nm : N ≤ M
theorem E2.lt {w : World} {B OB M oc EM KS NK N : Nat} {ka : Nat → Nat} {SO ST : Nat} {so : Nat → Int} {st : Nat → Nat} {C : Nat} {wr : World} (h : E2 w B OB M oc EM KS NK N ka SO ST so st C wr) : C + 4 ≤ wr.heap.size := heap_lt h.bl
theorem E2.keep {w : World} {B OB M oc EM KS NK N : Nat} {ka : Nat → Nat} {SO ST : Nat} {so : Nat → Int} {st : Nat → Nat} {C : Nat} {wr w' : World} (h : E2 w B OB M oc EM KS NK N ka SO ST so st C wr) {F : Nat → Prop} (k : Keep F wr w') (hF : ∀ b, F b → b = C ∨ b = C + 2 ∨ C + 4 ≤ b) : E2 w B OB M oc EM KS NK N ka SO ST so st C w' := by
  have hl := h.lt
  have hC := h.bC
  have hs := h.so1
  have ht := h.st1
  have nf : ∀ b, b < C ∨ b = C + 1 ∨ b = C + 3 → ¬ F b := fun b q r => by have := hF b r; omega
  exact { h with
    k := h.k.trans k (fun b q => .inr (by have := h.hB; have := hF b q; omega))
    b3 := k.at h.b3 (nf _ (by omega))
    b4 := k.at h.b4 (nf _ (by omega))
    b5 := k.at h.b5 (nf _ (by omega))
    b8 := k.at h.b8 (nf _ (by omega))
    row := h.row.keep (k.block _ (by omega) (nf _ (by omega)))
    ro := h.ro.keep (k.block _ (by omega) (nf _ (by omega)))
    rt := h.rt.keep (k.block _ (by omega) (nf _ (by omega)))
    bf := k.at h.bf (nf _ (by omega))
    bl := k.at h.bl (nf _ (by omega)) }
/-- final, later. -/
structure SB (M C n : Nat) (wr : World) : Prop where
  fr : ∃ fb : Nat → Bool, Row wr C M (fun i => .bool (fb i))
  lm : MQ isB wr (C + 2) n
theorem SB.keep {M C n : Nat} {wr w' : World} (h : SB M C n wr) {F : Nat → Prop} (k : Keep F wr w') (hC : C < wr.heap.size) (h1 : ¬ F C) (h2 : ¬ F (C + 2)) : SB M C n w' := by
  obtain ⟨fb, r⟩ := h.fr
  exact ⟨⟨fb, r.keep (k.block C hC h1)⟩, h.lm.keep k h2⟩
/-- Two pointers. -/
def RetPP (e : Ending) : Prop := ∃ p q : Option Addr, e = .returned (.tuple #[.pointer p, .pointer q])
end Go.Proofs.YbulkdvbsGreat

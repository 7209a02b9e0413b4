/-
  The law's history is built: zzs6089abuild, walked.
-/
import Derived.Test.YbulkdvbsGreatRig
import Derived.Test.YbulkdvbsGreatKeys
namespace Go.Proofs.YbulkdvbsGreat
open Go.RowKit

/-- Nothing stands behind a transaction's own end. -/
def WFo (kd tx : Nat → Nat) (M : Nat) : Prop := ∀ i j, i < j → j < M → tx i = tx j → ¬ (kd i = 99 ∨ kd i = 97)
theorem put1_if {α : Type} (f : Nat → α) (t s : Nat) (v : α) : put1 f t v s = if s = t then v else f s := rfl

/-- 'make([]T, 0, n)'. -/
theorem run_mk0b (t e : TypeId) (z : Value) (k b : Nat) (ht : Ybaz.prog.underlying t = some (.slice e)) (hinf : ∃ i, Ybaz.prog.info? e = some i ∧ i.zero = some z ∧ i.size = k ∧ i.bytes = b) (hb : b ≤ 1024) (w : World) (n : Nat) (hn : n ≤ 2097152) :
    (opMk t (.int .i64 0) (.int .i64 n)).run Ybaz.prog w = .ok (.value (.slice (some ⟨w.heap.size, 0, none⟩) 0 n)) (w.alloc (.cells (mc z k n) e)) := by
  obtain ⟨i, hi, hz', hs, hb'⟩ := hinf
  have hbn : ((i.bytes : Nat) : Int) * (n : Int) ≤ 281474976710656 := by
    have : i.bytes * n ≤ 1024 * 2097152 := Nat.mul_le_mul (by omega) hn
    have h2 : ((i.bytes * n : Nat) : Int) ≤ 281474976710656 := by omega
    rwa [Int.natCast_mul] at h2
  have h := run_make (P := Ybaz.prog) w t e i _ ht hi hz' .i64 .i64 0 n (by omega) (by omega) hbn (by omega)
  unfold opMk
  rw [Sem.run_bind, h, hs]
  simp [mc]
theorem Vec.mk0b (w : World) (e : TypeId) (z : Value) (k n : Nat) (f : Nat → Nat → Value) (hn : n ≤ 2097152) : Vec (w.alloc (.cells (mc z k n) e)) e k (some ⟨w.heap.size, 0, none⟩) 0 n f := by
  refine ⟨by rw [rowK_len], .inr ⟨w.heap.size, n, mc z k n, rfl, Nat.zero_le _, heap_alloc_new w _, Nat.zero_le _, by unfold maxLen; omega, mc_size z k n, ?_⟩⟩
  simp [rowK]
/-- A row, however long, out of a slice with a block. -/
theorem Vec.rowkb {w : World} {e : TypeId} {k g n c : Nat} {f : Nat → Nat → Value} (h : Vec w e k (some ⟨g, 0, none⟩) n c f) : RowK w g n k f := by
  by_cases h0 : 0 < n
  · obtain ⟨g', e, _, r⟩ := h.blk h0
    simp only [Option.some.injEq, Addr.mk.injEq, and_true] at e
    subst e
    exact r
  · obtain ⟨cur, hb⟩ := h.block_ty rfl
    exact ⟨fun i _ hi => by omega, fun i => free_of _ _ i _ _ hb⟩
/-- What stands while the history is built. -/
structure B1 (w : World) (KB EB g M c : Nat) (kd tx ky : Nat → Nat) (en : Nat → Bool) (wr : World) : Prop where
  k : Keep (fun _ => False) w wr
  vec : Vec wr 34 7 (some ⟨g, 0, none⟩) M c (opc kd tx ky)
  hk : ∀ i, i < M → (kd i = 114 ∨ kd i = 119) ∧ ky i < 3 ∨ (kd i = 99 ∨ kd i = 97) ∧ ky i = 3
  ht : ∀ i, i < M → 1 ≤ tx i ∧ tx i ≤ 5
  wf : WFo kd tx M
  en1 : ∀ i, i < M → kd i = 99 ∨ kd i = 97 → en (tx i - 1) = true
  keys : wr.heap[KB]? = some (.cells #[.string ⟨#[97]⟩, .string ⟨#[98]⟩, .string ⟨#[99]⟩] 43)
  row : Row wr EB 5 (fun t => .bool (en t))
  bE : EB < wr.heap.size
  nw : w.heap.size ≤ KB ∧ w.heap.size ≤ EB ∧ w.heap.size ≤ g
  ne : KB ≠ EB ∧ g ≠ KB ∧ g ≠ EB
section
variable {w wr w' : World} {KB EB g M c : Nat} {kd tx ky : Nat → Nat} {en : Nat → Bool}
theorem B1.quiet (h : B1 w KB EB g M c kd tx ky en wr) (k : Keep (fun _ => False) wr w') : B1 w KB EB g M c kd tx ky en w' :=
  ⟨h.k.trans k (fun _ q => q.elim), h.vec.keep k (fun _ _ q => q), h.hk, h.ht, h.wf, h.en1, k.at h.keys id, h.row.keep (k.block EB h.bE id), Nat.lt_of_lt_of_le h.bE k.size, h.nw, h.ne⟩
theorem B1.ended (h : B1 w KB EB g M c kd tx ky en wr) (t : Nat) (ht : t < 5) : B1 w KB EB g M c kd tx ky (put1 en t true) (wr.setCell ⟨EB, t, none⟩ (.bool true)) := by
  have k := Keep.setCell wr ⟨EB, t, none⟩ (.bool true)
  have hn := h.nw
  have he := h.ne
  exact ⟨h.k.trans k (fun b q => .inr (by have : b = EB := q; omega)), h.vec.keep k (fun b e q => by have e1 : g = b := (Addr.mk.inj (Option.some.inj e)).1; have : b = EB := q; omega), h.hk, h.ht, h.wf, fun i hi q => by
      rw [put1_if]; split
      · rfl
      · exact h.en1 i hi q, k.at h.keys (by show ¬ KB = EB; omega), (h.row.set t (.bool true) ht).congr (fun i _ => by rw [put1_if]; split <;> rfl), Nat.lt_of_lt_of_le h.bE k.size, hn, he⟩
/-- An operation more. -/
theorem B1.more (h : B1 w KB EB g M c kd tx ky en wr) {t k9 y9 : Nat} (ht : t < 5) (hk9 : (k9 = 114 ∨ k9 = 119) ∧ y9 < 3 ∨ (k9 = 99 ∨ k9 = 97) ∧ y9 = 3) (hno : ∀ i, i < M → tx i = t + 1 → ¬ (kd i = 99 ∨ kd i = 97)) (hen : k9 = 99 ∨ k9 = 97 → en t = true)
    {g5 cap : Nat} (hv : Vec w' 34 7 (some ⟨g5, 0, none⟩) (M + 1) cap (push M (opc kd tx ky) (opc (fun _ => k9) (fun _ => t + 1) (fun _ => y9) 0))) (k : Keep (fun b => (some ⟨g, 0, none⟩ : Option Addr) = some ⟨b, 0, none⟩) wr w') (hg : (some ⟨g, 0, none⟩ : Option Addr) = some ⟨g5, 0, none⟩ ∨ g5 = wr.heap.size) :
    B1 w KB EB g5 (M + 1) cap (put1 kd M k9) (put1 tx M (t + 1)) (put1 ky M y9) en w' := by
  have hn := h.nw
  have he := h.ne
  have hkl := heap_lt h.keys
  have hel := h.bE
  have q1 : ∀ b, (some ⟨g, 0, none⟩ : Option Addr) = some ⟨b, 0, none⟩ → g = b := fun b e => (Addr.mk.inj (Option.some.inj e)).1
  have hsz := h.k.size
  have hg' : g5 = g ∨ g5 = wr.heap.size := or2 hg (fun e => (q1 _ e).symm) id
  refine ⟨h.k.trans k (fun b q => .inr (by have := q1 b q; omega)), hv.congr (by omega) (fun j c hj _ => ?_), fun i hi => ?_, fun i hi => ?_, fun i j hij hj e => ?_, fun i hi q => ?_, k.at h.keys (fun q => by have := q1 _ q; omega), h.row.keep (k.block EB h.bE (fun q => by have := q1 _ q; omega)), Nat.lt_of_lt_of_le h.bE k.size, ⟨hn.1, hn.2.1, by omega⟩, by omega, by omega, by omega⟩
  · unfold push opc
    by_cases e : j = M
    · subst e; simp [put1_at]
    · simp [e, put1_ne _ _ e]
  · by_cases e : i = M
    · subst e; simp only [put1_at]; exact hk9
    · simp only [put1_ne _ _ e]; exact h.hk i (by omega)
  · by_cases e : i = M
    · subst e; simp only [put1_at]; omega
    · simp only [put1_ne _ _ e]; exact h.ht i (by omega)
  · have ei : i ≠ M := by omega
    rw [put1_ne _ _ ei] at e
    rw [put1_ne _ _ ei]
    by_cases ej : j = M
    · subst ej; rw [put1_at] at e; exact hno i hij e
    · rw [put1_ne _ _ ej] at e; exact h.wf i j hij (by omega) e
  · by_cases e : i = M
    · subst e; rw [put1_at] at q ⊢; exact hen q
    · rw [put1_ne _ _ e] at q ⊢; exact h.en1 i (by omega) q
theorem B1.no (h : B1 w KB EB g M c kd tx ky en wr) {t : Nat} (hen : en t = false) : ∀ i, i < M → tx i = t + 1 → ¬ (kd i = 99 ∨ kd i = 97) := fun i hi e q => by
  have := h.en1 i hi q
  rw [e, show t + 1 - 1 = t by omega, hen] at this
  simp at this
end
theorem newO7 (w : World) (k9 t9 y9 : Nat) (t : TypeId) : ∀ j, j < 7 → (w.alloc (.cells #[.int .u8 (k9 : Int), .int .u64 (t9 : Int), .string (kstr y9), .string ⟨#[]⟩, .bool false, .int .u64 0, .slice none 0 0] t)).cell? ((⟨w.heap.size, 0, none⟩ : Addr).add j) = some (opc (fun _ => k9) (fun _ => t9) (fun _ => y9) 0 j) := fun j hj => by
  rw [add_none, cell_of _ _ _ _ _ (heap_alloc_new _ _)]
  have : j = 0 ∨ j = 1 ∨ j = 2 ∨ j = 3 ∨ j = 4 ∨ j = 5 ∨ j = 6 := by omega
  rcases this with rfl | rfl | rfl | rfl | rfl | rfl | rfl <;> rfl
theorem inf34 : ∃ i, Ybaz.prog.info? 34 = some i ∧ i.zero = some (.agg #[.int .u8 0, .int .u64 0, .string ⟨#[]⟩, .string ⟨#[]⟩, .bool false, .int .u64 0, .slice none 0 0]) ∧ i.size = 7 ∧ i.bytes = 88 := inf_of (by kernel_rfl)
theorem opc_one (kd tx ky : Nat → Nat) (i c : Nat) : (opc kd tx ky i c).oneCell' = true := by
  unfold opc
  split; rfl
  split; rfl
  split; rfl
  split; rfl
  split; rfl
  split <;> rfl
theorem key3 (y : Nat) (h : y < 3) : (#[Value.string ⟨#[97]⟩, .string ⟨#[98]⟩, .string ⟨#[99]⟩] : Array Value)[y]? = some (.string (kstr y)) := by
  have : y = 0 ∨ y = 1 ∨ y = 2 := by omega
  rcases this with rfl | rfl | rfl <;> rfl
/-- A block that is none of theirs is turned. -/
theorem B1.off {w wr w' : World} {KB EB g M c bO : Nat} {kd tx ky : Nat → Nat} {en : Nat → Bool} (h : B1 w KB EB g M c kd tx ky en wr) (k : Keep (fun b => b = bO) wr w') (hn : KB ≠ bO ∧ EB ≠ bO ∧ g ≠ bO ∧ w.heap.size ≤ bO) : B1 w KB EB g M c kd tx ky en w' :=
  ⟨h.k.trans k (fun b q => .inr (by have : b = bO := q; omega)), h.vec.keep k (fun b e q => by have e1 : g = b := (Addr.mk.inj (Option.some.inj e)).1; have : b = bO := q; omega), h.hk, h.ht, h.wf, h.en1, k.at h.keys hn.1, h.row.keep (k.block EB h.bE hn.2.1), Nat.lt_of_lt_of_le h.bE k.size, h.nw, h.ne⟩
/-- An operation's kind and key; its end, noted. -/
def OkOp (k y : Nat) : Prop := (k = 114 ∨ k = 119) ∧ y < 3 ∨ (k = 99 ∨ k = 97) ∧ y = 3
def EnOk (k : Nat) (b : Bool) : Prop := k = 99 ∨ k = 97 → b = true
/-- What the builder answers. -/
def RetBd (w w' : World) (e : Ending) : Prop := ∃ OB M oc kd tx ky, e = .returned (.slice (some ⟨OB, 0, none⟩) M oc) ∧ OP w' OB M kd tx ky ∧ WFo kd tx M ∧ w.heap.size ≤ OB ∧ Keep (fun _ => False) w w'
theorem exec_make23 (ρ : Operand → Value) (dst : Option Tmp) (x y : Operand) (ty : TypeId) (pos : String) (after : Array Edge) (guard : Option (Nat × Bool)) : execOp ρ { dst, op := .makeSlice 23 x y, type := ty, pos, after, guard } = opMk 23 (ρ x) (ρ y) := rfl
attribute [local go_sem ↓] exec_make23
attribute [local go_sem ↓ 2000] exec_app
set_option maxHeartbeats 8000000 in
set_option maxRecDepth 100000 in
theorem build_any (a0 : Option Addr) (m c0 b o : Nat) (X : Nat → Nat → Nat) (w : World) (hm : m ≤ 2000) (hX : ∀ i c, X i c ≤ 255) (ha : 0 < m → a0 = some ⟨b, o, none⟩) (hc : ∀ i c, i < m → c < 3 → w.cell? ⟨b, o + i * 3 + c, none⟩ = some (.int .u8 (X i c : Int))) (hb : 0 < m → b < w.heap.size) :
    Calls Ybaz.prog 4 #[.slice a0 m c0] w fun e w' => RetBd w w' e := by
  have hm' : (m : Int) ≤ 2000 := by omega
  have HA : Hid _ := ha
  have HCl : Hid _ := hc
  have HBl : Hid _ := hb
  have HX : Hid _ := hX
  have hmk := fun W => run_mk0b 23 34 _ 7 88 Ybaz.underlying23 inf34 (by decide) W m (by omega)
  clear ha hc hb hX
  go_enter Ybaz.func4, Ybaz.ntmps4
  go_upto_region 4 with fail
  have HB0 : Hid (B1 w w.heap.size (w.heap.size + 1) (w.heap.size + 1 + 1) 0 m (fun _ => 0) (fun _ => 0) (fun _ => 0) (fun _ => false) (((w.alloc (.cells #[.string ⟨#[97]⟩, .string ⟨#[98]⟩, .string ⟨#[99]⟩] 43)).alloc (.cells #[.bool false, .bool false, .bool false, .bool false, .bool false] 27)).alloc (.cells (mc (.agg #[.int .u8 0, .int .u64 0, .string ⟨#[]⟩, .string ⟨#[]⟩, .bool false, .int .u64 0, .slice none 0 0]) 7 m) 34))) := by
    have k1 := Keep.alloc (fun _ => False) w (.cells #[.string ⟨#[97]⟩, .string ⟨#[98]⟩, .string ⟨#[99]⟩] 43)
    have e1 := heap_alloc_new w (.cells #[.string ⟨#[97]⟩, .string ⟨#[98]⟩, .string ⟨#[99]⟩] 43)
    have z1 : (w.alloc (.cells #[.string ⟨#[97]⟩, .string ⟨#[98]⟩, .string ⟨#[99]⟩] 43)).heap.size = w.heap.size + 1 := World.size_alloc _ _
    generalize w.alloc (.cells #[.string ⟨#[97]⟩, .string ⟨#[98]⟩, .string ⟨#[99]⟩] 43) = v1 at *
    have k2 := Keep.alloc (fun _ => False) v1 (.cells #[.bool false, .bool false, .bool false, .bool false, .bool false] 27)
    have e2 := heap_alloc_new v1 (.cells #[.bool false, .bool false, .bool false, .bool false, .bool false] 27)
    have z2 : (v1.alloc (.cells #[.bool false, .bool false, .bool false, .bool false, .bool false] 27)).heap.size = v1.heap.size + 1 := World.size_alloc _ _
    generalize v1.alloc (.cells #[.bool false, .bool false, .bool false, .bool false, .bool false] 27) = v2 at *
    have k3 := Keep.alloc (fun _ => False) v2 (.cells (mc (.agg #[.int .u8 0, .int .u64 0, .string ⟨#[]⟩, .string ⟨#[]⟩, .bool false, .int .u64 0, .slice none 0 0]) 7 m) 34)
    have e3 := Vec.mk0b v2 34 (.agg #[.int .u8 0, .int .u64 0, .string ⟨#[]⟩, .string ⟨#[]⟩, .bool false, .int .u64 0, .slice none 0 0]) 7 m (opc (fun _ => 0) (fun _ => 0) (fun _ => 0)) (by omega)
    have z3 := World.size_alloc v2 (.cells (mc (.agg #[.int .u8 0, .int .u64 0, .string ⟨#[]⟩, .string ⟨#[]⟩, .bool false, .int .u64 0, .slice none 0 0]) 7 m) 34)
    generalize v2.alloc (.cells (mc (.agg #[.int .u8 0, .int .u64 0, .string ⟨#[]⟩, .string ⟨#[]⟩, .bool false, .int .u64 0, .slice none 0 0]) 7 m) 34) = v3 at *
    rw [z2, z1] at e3
    rw [z1] at e2
    have e2' := k3.at e2 id
    refine ⟨(k1.trans k2 (fun _ q => q.elim)).trans k3 (fun _ q => q.elim), e3, fun i hi => by omega, fun i hi => by omega, fun i j _ hj => by omega, fun i hi => by omega, k3.at (k2.at e1 id) id, ⟨fun i hi => ?_, fun i => free_of _ _ i _ _ e2'⟩, by omega, ⟨by omega, by omega, by omega⟩, by omega, by omega, by omega⟩
    rw [cell_of _ _ _ _ _ e2']
    have : i = 0 ∨ i = 1 ∨ i = 2 ∨ i = 3 ∨ i = 4 := by omega
    rcases this with rfl | rfl | rfl | rfl | rfl <;> rfl
  generalize (((w.alloc (.cells #[.string ⟨#[97]⟩, .string ⟨#[98]⟩, .string ⟨#[99]⟩] 43)).alloc (.cells #[.bool false, .bool false, .bool false, .bool false, .bool false] 27)).alloc (.cells (mc (.agg #[.int .u8 0, .int .u64 0, .string ⟨#[]⟩, .string ⟨#[]⟩, .bool false, .int .u64 0, .slice none 0 0]) 7 m) 34)) = w1 at *
  obtain ⟨KB, hKB⟩ : ∃ KB, KB = w.heap.size := ⟨_, rfl⟩
  obtain ⟨EB, hEB⟩ : ∃ EB, EB = w.heap.size + 1 := ⟨_, rfl⟩
  obtain ⟨g0, hg0⟩ : ∃ g0, g0 = w.heap.size + 1 + 1 := ⟨_, rfl⟩
  rw [← hg0, ← hEB, ← hKB] at HB0 ⊢
  clear hKB hEB hg0 hmk
  go_wp2
  go_loopg [5, 16] m (fun gk s5 s wr => ∃ (i g M c : Nat) (kd tx ky : Nat → Nat) (en : Nat → Bool), i ≤ m ∧ s5 = .slice (some ⟨g, 0, none⟩) M c ∧ s = .int .i64 (i : Int) ∧ gk = m - i ∧ M ≤ i ∧ Hid (B1 w KB EB g M c kd tx ky en wr))
  case atStart => exact ⟨0, g0, 0, m, _, _, _, _, Nat.zero_le _, rfl, rfl, rfl, Nat.le_refl _, HB0⟩
  case round =>
    clear HB0
    obtain ⟨i, g, M, c, kd, tx, ky, en, hi, rfl, rfl, rfl, hMi, HR⟩ := hrel
    obtain ⟨w2, rfl⟩ : ∃ w2, w2 = wr := ⟨_, rfl⟩
    by_cases hlt : i < m
    · have i1 : (i : Int) < (m : Int) := by omega
      have i2 : (i : Int).toNat = i := by omega
      obtain rfl := HA.out (by omega)
      have hbl := HBl.out (by omega)
      have e0 : w2.cell? ⟨b, o + i * 3, none⟩ = some (.int .u8 (X i 0 : Int)) := (HR.out.k.cell _ hbl id).trans (HCl.out i 0 hlt (by omega))
      have e1 : w2.cell? ⟨b, o + i * 3 + 1, none⟩ = some (.int .u8 (X i 1 : Int)) := (HR.out.k.cell _ hbl id).trans (HCl.out i 1 hlt (by omega))
      have e2 : w2.cell? ⟨b, o + i * 3 + 2, none⟩ = some (.int .u8 (X i 2 : Int)) := (HR.out.k.cell _ hbl id).trans (HCl.out i 2 hlt (by omega))
      go_upto_region 7 with fail
      have HR3 : Hid _ := HR.out.quiet (Keep.alloc (fun _ => False) w2 (.cells #[.int .u8 (X i 0 : Int), .int .u8 (X i 1 : Int), .int .u8 (X i 2 : Int)] 45))
      have HS3 : Hid _ := heap_alloc_new w2 (.cells #[.int .u8 (X i 0 : Int), .int .u8 (X i 1 : Int), .int .u8 (X i 2 : Int)] 45)
      clear e0 e1 e2 HR HA
      generalize (w2.alloc (.cells #[.int .u8 (X i 0 : Int), .int .u8 (X i 1 : Int), .int .u8 (X i 2 : Int)] 45)) = w3 at *
      generalize w2.heap.size = bS at *
      have l0 := HX.out i 0
      have l1 := HX.out i 1
      have l2 := HX.out i 2
      generalize X i 0 = x0 at *
      generalize X i 1 = x1 at *
      generalize X i 2 = x2 at *
      obtain ⟨t, ht5, ht⟩ : ∃ t : Nat, t < 5 ∧ (x1 : Int).tmod 5 = (t : Int) := ⟨x1 % 5, by omega, by rw [Int.tmod_eq_emod_of_nonneg (by omega)]; omega⟩
      obtain ⟨k6, hk6, hkk⟩ : ∃ k : Nat, k < 6 ∧ (x0 : Int).tmod 6 = (k : Int) := ⟨x0 % 6, by omega, by rw [Int.tmod_eq_emod_of_nonneg (by omega)]; omega⟩
      obtain ⟨y, hy3, hyy⟩ : ∃ y : Nat, y < 3 ∧ (x2 : Int).tmod 3 = (y : Int) := ⟨x2 % 3, by omega, by rw [Int.tmod_eq_emod_of_nonneg (by omega)]; omega⟩
      have s0 : w3.cell? ⟨bS, 0, none⟩ = some (.int .u8 (x0 : Int)) := cell_of _ _ 0 _ _ HS3.out
      have s1 : w3.cell? ⟨bS, 1, none⟩ = some (.int .u8 (x1 : Int)) := cell_of _ _ 1 _ _ HS3.out
      have t1 : (t : Int) < 5 := by omega
      have t2 : (t : Int).toNat = t := by omega
      have en0 := HR3.out.row.cell t ht5
      cases hen : en t with
      | true =>
        rw [hen] at en0
        have HQ : Hid _ := hen
        clear hen
        go_wp2
        go_roundg (m - (i + 1))
        case measure => omega
        case rel => exact ⟨i + 1, g, M, c, kd, tx, ky, en, by omega, rfl, by go_num, rfl, by omega, HR3⟩
      | false =>
        rw [hen] at en0
        have HNO : Hid _ := HR3.out.no hen
        clear hen
        go_upto_region 10 with fail
        have HR4 : Hid _ := HR3.out.quiet (Keep.alloc (fun _ => False) w3 (.cells #[.int .u8 0, .int .u64 ((t : Int) + 1), .string ⟨#[]⟩, .string ⟨#[]⟩, .bool false, .int .u64 0, .slice none 0 0] 34))
        have HS4 : Hid _ := heap_grow (.cells #[.int .u8 0, .int .u64 ((t : Int) + 1), .string ⟨#[]⟩, .string ⟨#[]⟩, .bool false, .int .u64 0, .slice none 0 0] 34) HS3.out
        have HB4 : Hid _ := heap_alloc_new w3 (.cells #[.int .u8 0, .int .u64 ((t : Int) + 1), .string ⟨#[]⟩, .string ⟨#[]⟩, .bool false, .int .u64 0, .slice none 0 0] 34)
        have HNE : Hid (bS ≠ w3.heap.size ∧ KB ≠ w3.heap.size ∧ EB ≠ w3.heap.size ∧ g ≠ w3.heap.size ∧ w.heap.size ≤ w3.heap.size) := by
          have h1 := heap_lt HS3.out
          have h2 := heap_lt HR3.out.keys
          have h3 := HR3.out.bE
          have h4 := HR3.out.vec.lt rfl
          have h5 := HR3.out.k.size
          exact ⟨by omega, by omega, by omega, by omega, h5⟩
        clear HR3 HS3 s0 s1 en0
        generalize (w3.alloc (.cells #[.int .u8 0, .int .u64 ((t : Int) + 1), .string ⟨#[]⟩, .string ⟨#[]⟩, .bool false, .int .u64 0, .slice none 0 0] 34)) = w4 at *
        generalize w3.heap.size = bO at *
        have s0 : w4.cell? ⟨bS, 0, none⟩ = some (.int .u8 (x0 : Int)) := cell_of _ _ 0 _ _ HS4.out
        go_upto_block 2 with fail
        clear s0
        go_cut [9] from 34 to 63 (fun s9 wx => ∃ (k9 y9 : Nat) (en' : Nat → Bool), s9 = .pointer (some ⟨bO, 0, none⟩) ∧ Hid (B1 w KB EB g M c kd tx ky en' wx ∧ wx.heap[bO]? = some (.cells #[.int .u8 (k9 : Int), .int .u64 ((t : Int) + 1), .string (kstr y9), .string ⟨#[]⟩, .bool false, .int .u64 0, .slice none 0 0] 34) ∧ OkOp k9 y9 ∧ EnOk k9 (en' t)))
        case first => as_aux_lemma =>
          have h6 : (k6 = 0 ∨ k6 = 1) ∨ (k6 = 2 ∨ k6 = 3) ∨ k6 = 4 ∨ k6 = 5 := by omega
          have y1 : (y : Int) < 3 := by omega
          have y2 : (y : Int).toNat = y := by omega
          clear hk6
          rcases h6 with hA | hB | rfl | rfl
          · have f1 := free_of _ bO 0 _ _ HB4.out
            have o0 : w4.cell? ⟨bO, 0, none⟩ = some (.int .u8 0) := cell_of _ _ 0 _ _ HB4.out
            have HB5 := heap_set _ bO 0 (.int .u8 114) _ _ HB4.out
            have K5 := Keep.setCell w4 ⟨bO, 0, none⟩ (.int .u8 114)
            have r2 : (w4.setCell ⟨bO, 0, none⟩ (.int .u8 114)).cell? ⟨bS, 2, none⟩ = some (.int .u8 (x2 : Int)) := cell_of _ _ 2 _ _ (K5.at HS4.out (by show ¬ bS = bO; exact HNE.out.1))
            have r3 : (w4.setCell ⟨bO, 0, none⟩ (.int .u8 114)).cell? ⟨KB, y, none⟩ = some (.string (kstr y)) := (cell_of _ _ y _ _ (K5.at HR4.out.keys (by show ¬ KB = bO; exact HNE.out.2.1))).trans (key3 y hy3)
            have o2 : (w4.setCell ⟨bO, 0, none⟩ (.int .u8 114)).cell? ⟨bO, 2, none⟩ = some (.string ⟨#[]⟩) := cell_of _ _ 2 _ _ HB5
            have f2 := free_of _ bO 2 _ _ HB5
            have HF : Hid (B1 w KB EB g M c kd tx ky en ((w4.setCell ⟨bO, 0, none⟩ (.int .u8 114)).setCell ⟨bO, 2, none⟩ (.string (kstr y))) ∧ ((w4.setCell ⟨bO, 0, none⟩ (.int .u8 114)).setCell ⟨bO, 2, none⟩ (.string (kstr y))).heap[bO]? = some (.cells #[.int .u8 ((114 : Nat) : Int), .int .u64 ((t : Int) + 1), .string (kstr y), .string ⟨#[]⟩, .bool false, .int .u64 0, .slice none 0 0] 34) ∧ OkOp 114 y ∧ EnOk 114 (en t)) :=
              ⟨HR4.out.off (K5.trans (Keep.setCell _ ⟨bO, 2, none⟩ _) (fun _ q => .inl q)) HNE.out.2, heap_set _ bO 2 (.string (kstr y)) _ _ HB5, .inl ⟨by omega, hy3⟩, fun q => by omega⟩
            clear HB5 K5
            rcases hA with rfl | rfl
            · go_wp2
              go_meet
              exact ⟨114, y, en, rfl, HF⟩
            · go_wp2
              go_meet
              exact ⟨114, y, en, rfl, HF⟩
          · have f1 := free_of _ bO 0 _ _ HB4.out
            have o0 : w4.cell? ⟨bO, 0, none⟩ = some (.int .u8 0) := cell_of _ _ 0 _ _ HB4.out
            have HB5 := heap_set _ bO 0 (.int .u8 119) _ _ HB4.out
            have K5 := Keep.setCell w4 ⟨bO, 0, none⟩ (.int .u8 119)
            have r2 : (w4.setCell ⟨bO, 0, none⟩ (.int .u8 119)).cell? ⟨bS, 2, none⟩ = some (.int .u8 (x2 : Int)) := cell_of _ _ 2 _ _ (K5.at HS4.out (by show ¬ bS = bO; exact HNE.out.1))
            have r3 : (w4.setCell ⟨bO, 0, none⟩ (.int .u8 119)).cell? ⟨KB, y, none⟩ = some (.string (kstr y)) := (cell_of _ _ y _ _ (K5.at HR4.out.keys (by show ¬ KB = bO; exact HNE.out.2.1))).trans (key3 y hy3)
            have o2 : (w4.setCell ⟨bO, 0, none⟩ (.int .u8 119)).cell? ⟨bO, 2, none⟩ = some (.string ⟨#[]⟩) := cell_of _ _ 2 _ _ HB5
            have f2 := free_of _ bO 2 _ _ HB5
            have HF : Hid (B1 w KB EB g M c kd tx ky en ((w4.setCell ⟨bO, 0, none⟩ (.int .u8 119)).setCell ⟨bO, 2, none⟩ (.string (kstr y))) ∧ ((w4.setCell ⟨bO, 0, none⟩ (.int .u8 119)).setCell ⟨bO, 2, none⟩ (.string (kstr y))).heap[bO]? = some (.cells #[.int .u8 ((119 : Nat) : Int), .int .u64 ((t : Int) + 1), .string (kstr y), .string ⟨#[]⟩, .bool false, .int .u64 0, .slice none 0 0] 34) ∧ OkOp 119 y ∧ EnOk 119 (en t)) :=
              ⟨HR4.out.off (K5.trans (Keep.setCell _ ⟨bO, 2, none⟩ _) (fun _ q => .inl q)) HNE.out.2, heap_set _ bO 2 (.string (kstr y)) _ _ HB5, .inl ⟨by omega, hy3⟩, fun q => by omega⟩
            clear HB5 K5
            rcases hB with rfl | rfl
            · go_wp2
              go_meet
              exact ⟨119, y, en, rfl, HF⟩
            · go_wp2
              go_meet
              exact ⟨119, y, en, rfl, HF⟩
          · have f1 := free_of _ bO 0 _ _ HB4.out
            have o0 : w4.cell? ⟨bO, 0, none⟩ = some (.int .u8 0) := cell_of _ _ 0 _ _ HB4.out
            have HB5 := heap_set _ bO 0 (.int .u8 99) _ _ HB4.out
            have K5 := Keep.setCell w4 ⟨bO, 0, none⟩ (.int .u8 99)
            have b5 := HR4.out.off K5 HNE.out.2
            have r2 := b5.row.cell t ht5
            have f2 := b5.row.free t
            have HF : Hid (B1 w KB EB g M c kd tx ky (put1 en t true) ((w4.setCell ⟨bO, 0, none⟩ (.int .u8 99)).setCell ⟨EB, t, none⟩ (.bool true)) ∧ ((w4.setCell ⟨bO, 0, none⟩ (.int .u8 99)).setCell ⟨EB, t, none⟩ (.bool true)).heap[bO]? = some (.cells #[.int .u8 ((99 : Nat) : Int), .int .u64 ((t : Int) + 1), .string (kstr 3), .string ⟨#[]⟩, .bool false, .int .u64 0, .slice none 0 0] 34) ∧ OkOp 99 3 ∧ EnOk 99 (put1 en t true t)) :=
              ⟨b5.ended t ht5, heap_other _ (fun e => HNE.out.2.2.1 e) HB5, .inr ⟨by omega, rfl⟩, fun _ => put1_at _ _ _⟩
            clear HB5 K5 b5
            go_wp2
            go_meet
            exact ⟨99, 3, _, rfl, HF⟩
          · have f1 := free_of _ bO 0 _ _ HB4.out
            have o0 : w4.cell? ⟨bO, 0, none⟩ = some (.int .u8 0) := cell_of _ _ 0 _ _ HB4.out
            have HB5 := heap_set _ bO 0 (.int .u8 97) _ _ HB4.out
            have K5 := Keep.setCell w4 ⟨bO, 0, none⟩ (.int .u8 97)
            have b5 := HR4.out.off K5 HNE.out.2
            have r2 := b5.row.cell t ht5
            have f2 := b5.row.free t
            have HF : Hid (B1 w KB EB g M c kd tx ky (put1 en t true) ((w4.setCell ⟨bO, 0, none⟩ (.int .u8 97)).setCell ⟨EB, t, none⟩ (.bool true)) ∧ ((w4.setCell ⟨bO, 0, none⟩ (.int .u8 97)).setCell ⟨EB, t, none⟩ (.bool true)).heap[bO]? = some (.cells #[.int .u8 ((97 : Nat) : Int), .int .u64 ((t : Int) + 1), .string (kstr 3), .string ⟨#[]⟩, .bool false, .int .u64 0, .slice none 0 0] 34) ∧ OkOp 97 3 ∧ EnOk 97 (put1 en t true t)) :=
              ⟨b5.ended t ht5, heap_other _ (fun e => HNE.out.2.2.1 e) HB5, .inr ⟨by omega, rfl⟩, fun _ => put1_at _ _ _⟩
            clear HB5 K5 b5
            go_wp2
            go_meet
            exact ⟨97, 3, _, rfl, HF⟩
        case rest =>
          obtain ⟨k9, y9, en', rfl, HF⟩ := hcut
          obtain ⟨w5, rfl⟩ : ∃ w5, w5 = wc := ⟨_, rfl⟩
          have e0 : w5.cell? ⟨bO, 0, none⟩ = some (.int .u8 (k9 : Int)) := cell_of _ _ 0 _ _ HF.out.2.1
          have e1 : w5.cell? ⟨bO, 1, none⟩ = some (.int .u64 ((t : Int) + 1)) := cell_of _ _ 1 _ _ HF.out.2.1
          have e2 : w5.cell? ⟨bO, 2, none⟩ = some (.string (kstr y9)) := cell_of _ _ 2 _ _ HF.out.2.1
          have e3 : w5.cell? ⟨bO, 3, none⟩ = some (.string ⟨#[]⟩) := cell_of _ _ 3 _ _ HF.out.2.1
          have e4 : w5.cell? ⟨bO, 4, none⟩ = some (.bool false) := cell_of _ _ 4 _ _ HF.out.2.1
          have e5 : w5.cell? ⟨bO, 5, none⟩ = some (.int .u64 0) := cell_of _ _ 5 _ _ HF.out.2.1
          have e6 : w5.cell? ⟨bO, 6, none⟩ = some (.slice none 0 0) := cell_of _ _ 6 _ _ HF.out.2.1
          have HB6 : Hid _ := HF.out.1.quiet (Keep.alloc (fun _ => False) w5 (.cells #[.int .u8 (k9 : Int), .int .u64 ((t : Int) + 1), .string (kstr y9), .string ⟨#[]⟩, .bool false, .int .u64 0, .slice none 0 0] 34))
          have hM' : (M : Int) ≤ 2000 := by omega
          obtain ⟨g6, cap6, w6, hr6, hv6, hk6', hg6, hl6⟩ := run_push (w5.alloc (.cells #[.int .u8 (k9 : Int), .int .u64 ((t : Int) + 1), .string (kstr y9), .string ⟨#[]⟩, .bool false, .int .u64 0, .slice none 0 0] 34)) 23 34 23 7 88 _ Ybaz.underlying23 inf34 rfl (by decide) (by decide) (some ⟨g, 0, none⟩) M c _ HB6.out.vec ⟨w5.heap.size, 0, none⟩ 1 (opc (fun _ => k9) (fun _ => t + 1) (fun _ => y9) 0) (newO7 w5 k9 (t + 1) y9 34) (fun j _ => opc_one _ _ _ _ _) (by omega)
          have HFin : Hid _ := HB6.out.more ht5 HF.out.2.2.1 HNO.out HF.out.2.2.2 hv6 hk6' hg6
          clear HF HB6 hv6 hk6' hg6 hl6
          go_wp2
          go_roundg (m - (i + 1))
          case measure => omega
          case rel => exact ⟨i + 1, g6, M + 1, cap6, _, _, _, en', by omega, rfl, by go_num, rfl, by omega, HFin⟩
    · obtain rfl : i = m := by omega
      have q1 : ¬ (i : Int) < (i : Int) := by omega
      have HF : Hid (RetBd w w2 (.returned (.slice (some ⟨g, 0, none⟩) M c))) := by
        have h := HR.out
        exact ⟨g, M, c, kd, tx, ky, rfl, ⟨h.vec.rowkb, by omega, h.hk, h.ht, h.vec.lt rfl⟩, h.wf, h.nw.2.2, h.k⟩
      clear HR
      go_wp2
      go_ret
      exact HF.out
end Go.Proofs.YbulkdvbsGreat

/-
  The committed transactions' nodes; conflictSteps, walked.
-/
import Derived.Test.YbulkdvbsGreatKeys
import Derived.Test.YbulkdvbsGreatCmp
namespace Go.Proofs.YbulkdvbsGreat
open Go.RowKit

/-- The node of each transaction, as a map holds it. -/
def nodeF (node : Nat → Option Nat) : Int → Option Value := fun x => if 0 ≤ x then (node x.toNat).map (fun (u : Nat) => Value.int .i64 (u : Int)) else none
theorem nodeF_at (node : Nat → Option Nat) (t : Nat) : nodeF node (t : Int) = (node t).map (fun (u : Nat) => Value.int .i64 (u : Int)) := by simp [nodeF]
/-- The map of the committed transactions' nodes: n of them. -/
structure NM (w : World) (nb nn n : Nat) (node : Nat → Option Nat) : Prop where
  map : MP w 31 nb nn (intM .u64 (nodeF node))
  lt : ∀ t u, node t = some u → u < n
  inj : ∀ t t' u, node t = some u → node t' = some u → t = t'
theorem NM.keep {F : Nat → Prop} {w w' : World} {nb nn n : Nat} {node : Nat → Option Nat} (h : NM w nb nn n node) (k : Keep F w w') (hF : ¬ F nb) : NM w' nb nn n node := ⟨h.map.keep k hF, h.lt, h.inj⟩
theorem keyed31 : Maps.Keyed Ybaz.prog 31 := Maps.int_keyed Ybaz.underlying31
theorem tkey (t : Nat) (h : t ≤ 5) : keyOf Ybaz.prog 31 (.int .u64 (t : Int)) = some (.int .u64 (t : Int)) := by
  refine Maps.keyOf_int_mk Ybaz.underlying31 ?_
  have : t = 0 ∨ t = 1 ∨ t = 2 ∨ t = 3 ∨ t = 4 ∨ t = 5 := by omega
  rcases this with rfl | rfl | rfl | rfl | rfl | rfl <;> decide
theorem NM.look {w : World} {nb nn n : Nat} {node : Nat → Option Nat} (h : NM w nb nn n node) (t : Nat) (ht : t ≤ 5) :
    (Instr.lookup 49 (.map (some nb)) (.int .u64 (t : Int)) true).run Ybaz.prog w = .ok (.tuple #[.int .i64 (((node t).getD 0 : Nat) : Int), .bool (node t).isSome]) w := by
  have := h.map.look_ok keyed31 Ybaz.underlying49 (zero3 w) (tkey t ht)
  rw [intM_int, nodeF_at] at this
  rw [this]
  cases node t <;> rfl

theorem inf131 : ∃ i, Ybaz.prog.info? 131 = some i ∧ i.zero = some (.agg #[.int .i64 0, .int .i64 0, .int .i64 0, .int .u8 0]) ∧ i.size = 4 ∧ i.bytes = 32 := inf_of (by kernel_rfl)
theorem exec_make71 (ρ : Operand → Value) (dst : Option Tmp) (x y : Operand) (ty : TypeId) (pos : String) (after : Array Edge) (guard : Option (Nat × Bool)) : execOp ρ { dst, op := .makeSlice 71 x y, type := ty, pos, after, guard } = opMk 71 (ρ x) (ρ y) := rfl
/-- 'make([]T, 0, n)'. -/
theorem run_mk0 (t e : TypeId) (z : Value) (k b : Nat) (ht : Ybaz.prog.underlying t = some (.slice e)) (hinf : ∃ i, Ybaz.prog.info? e = some i ∧ i.zero = some z ∧ i.size = k ∧ i.bytes = b) (hb : b ≤ 1024) (w : World) (n : Nat) (hn : n ≤ 2097152) :
    (opMk t (.int .i64 0) (.int .i64 n)).run Ybaz.prog w = .ok (.value (.slice (some ⟨w.heap.size, 0, none⟩) 0 n)) (w.alloc (.cells (mc z k n) e)) := by
  obtain ⟨i, hi, hz', hs, hb'⟩ := hinf
  have hbn : ((i.bytes : Nat) : Int) * (n : Int) ≤ 281474976710656 := by
    have : i.bytes * n ≤ 1024 * 2097152 := Nat.mul_le_mul (by omega) hn
    have h2 : ((i.bytes * n : Nat) : Int) ≤ 281474976710656 := by omega
    rwa [Int.natCast_mul] at h2
  have h := run_make (P := Ybaz.prog) w t e i _ ht hi hz' .i64 .i64 0 n (by omega) (by omega) hbn (by omega)
  unfold opMk
  rw [Sem.run_bind, h, hs]
  simp [mc]
theorem Vec.mk0 (w : World) (e : TypeId) (z : Value) (k n : Nat) (f : Nat → Nat → Value) (hn : n ≤ 2097152) : Vec (w.alloc (.cells (mc z k n) e)) e k (some ⟨w.heap.size, 0, none⟩) 0 n f := by
  refine ⟨by rw [rowK_len], .inr ⟨w.heap.size, n, mc z k n, rfl, Nat.zero_le _, heap_alloc_new w _, Nat.zero_le _, by unfold maxLen; omega, mc_size z k n, ?_⟩⟩
  simp [rowK]
/-- A row, however long, out of a slice with a block. -/
theorem Vec.rowk {w : World} {e : TypeId} {k g n c : Nat} {f : Nat → Nat → Value} (h : Vec w e k (some ⟨g, 0, none⟩) n c f) : RowK w g n k f := by
  by_cases h0 : 0 < n
  · obtain ⟨g', e, _, r⟩ := h.blk h0
    simp only [Option.some.injEq, Addr.mk.injEq, and_true] at e
    subst e
    exact r
  · obtain ⟨cur, hb⟩ := h.block_ty rfl
    exact ⟨fun i _ hi => by omega, fun i => free_of _ _ i _ _ hb⟩
/-- The cells of a step. -/
def stc (u l h : Nat) (k : Int) (c : Nat) : Value := if c = 0 then .int .i64 (u : Int) else if c = 1 then .int .i64 (l : Int) else if c = 2 then .int .i64 (h : Int) else .int .u8 k
theorem newS4 (w : World) (u l h : Nat) (k : Int) (t : TypeId) : ∀ j, j < 4 → (w.alloc (.cells #[.int .i64 (u : Int), .int .i64 (l : Int), .int .i64 (h : Int), .int .u8 k] t)).cell? ((⟨w.heap.size, 0, none⟩ : Addr).add j) = some (stc u l h k j) := fun j hj => by
  rw [add_none, cell_of _ _ _ _ _ (heap_alloc_new _ _)]
  have : j = 0 ∨ j = 1 ∨ j = 2 ∨ j = 3 := by omega
  rcases this with rfl | rfl | rfl | rfl <;> rfl
theorem stc_one (u l h : Nat) (k : Int) (j : Nat) : (stc u l h k j).oneCell' = true := by unfold stc; split; rfl; split; rfl; split <;> rfl
attribute [local go_sem ↓ 2000] exec_app
attribute [local go_sem ↓] exec_make71

/-- The steps so far. -/
structure S1 (w wr : World) (n NK : Nat) (g NS c : Nat) (su sl : Nat → Nat) (sk : Nat → Int) : Prop where
  vec : Vec wr 131 4 (some ⟨g, 0, none⟩) NS c (fun i => stc (su i) (sl i) (sl i + 1) (sk i))
  hu : ∀ i, i < NS → su i < n
  hl : ∀ i, i < NS → sl i < NK
  hk : ∀ i, i < NS → sk i = 114 ∨ sk i = 119
  keep : Keep (fun _ => False) w wr
  new : w.heap.size ≤ g
theorem S1.keepF {w wr w' : World} {n NK g NS c : Nat} {su sl : Nat → Nat} {sk : Nat → Int} (h : S1 w wr n NK g NS c su sl sk) (k : Keep (fun _ => False) wr w') : S1 w w' n NK g NS c su sl sk :=
  ⟨h.vec.keep k (fun _ _ q => q), h.hu, h.hl, h.hk, h.keep.trans k (fun _ q => .inl q), h.new⟩
/-- What conflictSteps answers. -/
def RetSteps (w w' : World) (M n NK : Nat) (e : Ending) : Prop := ∃ SB NS sc su sl sk, e = .returned (.slice (some ⟨SB, 0, none⟩) NS sc) ∧ SP w' SB NS n NK su sl (fun i => sl i + 1) sk ∧ NS ≤ M ∧ w.heap.size ≤ SB ∧ ∃ cur, w'.heap[SB]? = some (.cells cur 131)
set_option maxHeartbeats 8000000 in
set_option maxRecDepth 100000 in
theorem steps_any (OB M oc : Nat) (kd tx ky : Nat → Nat) (nb nn n : Nat) (node : Nat → Option Nat) (KS NK : Nat) (wt : Nat → Prop) (num : Nat → Nat) (sx : Nat → ByteArray) (mb : Nat) (sa : Option Addr) (sc mn : Nat) (w : World) (h : OP w OB M kd tx ky) (hn : NM w nb nn n node) (hks : KSp w KS NK wt num sx mb sa sc mn) :
    Calls Ybaz.prog 15 #[.slice (some ⟨OB, 0, none⟩) M oc, .map (some nb), .pointer (some ⟨KS, 0, none⟩)] w fun e w' => RetSteps w w' M n NK e ∧ Keep (fun _ => False) w w' := by
  have HO : Hid _ := h
  have HN : Hid _ := hn
  have HS : Hid _ := hks
  have hM := h.hM
  have hM' : (M : Int) ≤ 2000 := by omega
  clear h hn hks
  have hmk := run_mk0 71 131 _ 4 32 Ybaz.underlying71 inf131 (by decide) w M (by omega)
  go_enter Ybaz.func15, Ybaz.ntmps15
  go_wp2
  have HS0 : Hid (S1 w (w.alloc (.cells (mc (.agg #[.int .i64 0, .int .i64 0, .int .i64 0, .int .u8 0]) 4 M) 131)) n NK w.heap.size 0 M (fun _ => 0) (fun _ => 0) (fun _ => 0)) :=
    ⟨Vec.mk0 _ _ _ _ _ _ (by omega), fun i hi => by omega, fun i hi => by omega, fun i hi => by omega, Keep.alloc _ _ _, Nat.le_refl _⟩
  clear hmk
  generalize (w.alloc (.cells (mc (.agg #[.int .i64 0, .int .i64 0, .int .i64 0, .int .u8 0]) 4 M) 131)) = w1 at *
  go_loopg [7, 19] M (fun gk s7 s wr => ∃ (i g NS c : Nat) (su sl : Nat → Nat) (sk : Nat → Int), i ≤ M ∧ s7 = .slice (some ⟨g, 0, none⟩) NS c ∧ s = .int .i64 (i : Int) ∧ gk = M - i ∧ NS ≤ i ∧ Hid (S1 w wr n NK g NS c su sl sk))
  case atStart => exact ⟨0, w.heap.size, 0, M, _, _, _, Nat.zero_le _, rfl, rfl, rfl, Nat.le_refl _, HS0⟩
  case round =>
    clear HS0
    obtain ⟨i, g, NS, c, su, sl, sk, hi, rfl, rfl, rfl, hNS, HK⟩ := hrel
    by_cases hlt : i < M
    · have i1 : (i : Int) < (M : Int) := by omega
      have i2 : (i : Int).toNat = i := by omega
      obtain ⟨e0, e1, e2, e3, e4, e5, e6⟩ := (HO.out.keep HK.out.keep id).cell i hlt
      have hk := HO.out.hk i hlt
      have ht := HO.out.ht i hlt
      have kA := Keep.alloc (fun _ => False) wr (.cells #[.int .u8 (kd i : Int), .int .u64 (tx i : Int), .string (kstr (ky i)), .string ⟨#[]⟩, .bool false, .int .u64 0, .slice none 0 0] 34)
      have hL := (HN.out.keep (HK.out.keep.trans kA (fun _ q => q.elim)) id).look (tx i) ht.2
      have hnu := HN.out.lt (tx i)
      have HK3 : Hid _ := HK.out.keepF kA
      have HB3 : Hid _ := heap_alloc_new wr (.cells #[.int .u8 (kd i : Int), .int .u64 (tx i : Int), .string (kstr (ky i)), .string ⟨#[]⟩, .bool false, .int .u64 0, .slice none 0 0] 34)
      have HHK : Hid _ := hk
      have hg0 := HK.out.new
      clear kA hk HK
      go_upto_region 6 with fail
      clear hL e0 e1 e2 e3 e4 e5 e6
      generalize (wr.alloc (.cells #[.int .u8 (kd i : Int), .int .u64 (tx i : Int), .string (kstr (ky i)), .string ⟨#[]⟩, .bool false, .int .u64 0, .slice none 0 0] 34)) = w3 at *
      generalize wr.heap.size = bO at *
      have hround : ∀ {W : World}, Keep (fun _ => False) w3 W → Hid (S1 w W n NK g NS c su sl sk) := fun k => HK3.out.keepF k
      have HR : Hid _ := @hround
      clear hround
      have e0 : w3.cell? ⟨bO, 0, none⟩ = some (.int .u8 (kd i : Int)) := cell_of _ _ 0 _ _ HB3.out
      have e1 : w3.cell? ⟨bO, 1, none⟩ = some (.int .u64 (tx i : Int)) := cell_of _ _ 1 _ _ HB3.out
      have e2 : w3.cell? ⟨bO, 2, none⟩ = some (.string (kstr (ky i))) := cell_of _ _ 2 _ _ HB3.out
      have e3 : w3.cell? ⟨bO, 3, none⟩ = some (.string ⟨#[]⟩) := cell_of _ _ 3 _ _ HB3.out
      have e4 : w3.cell? ⟨bO, 4, none⟩ = some (.bool false) := cell_of _ _ 4 _ _ HB3.out
      have e5 : w3.cell? ⟨bO, 5, none⟩ = some (.int .u64 0) := cell_of _ _ 5 _ _ HB3.out
      have e6 : w3.cell? ⟨bO, 6, none⟩ = some (.slice none 0 0) := cell_of _ _ 6 _ _ HB3.out
      generalize node (tx i) = nd at *
      cases nd with
      | none =>
        go_wp2
        go_roundg (M - (i + 1))
        case measure => omega
        case rel => exact ⟨i + 1, g, NS, c, su, sl, sk, by omega, rfl, by go_num, rfl, by omega, HR.out (Keep.refl _ _)⟩
      | some u =>
        have hun := hnu u rfl
        clear hnu
        by_cases hend : kd i = 99 ∨ kd i = 97
        · rcases hend with he | he
          · have kq : (kd i : Int) = 99 := by omega
            go_wp2
            go_roundg (M - (i + 1))
            case measure => omega
            case rel => exact ⟨i + 1, g, NS, c, su, sl, sk, by omega, rfl, by go_num, rfl, by omega, HR.out (Keep.refl _ _)⟩
          · have kq : (kd i : Int) = 97 := by omega
            go_wp2
            go_roundg (M - (i + 1))
            case measure => omega
            case rel => exact ⟨i + 1, g, NS, c, su, sl, sk, by omega, rfl, by go_num, rfl, by omega, HR.out (Keep.refl _ _)⟩
        · have kq1 : ((kd i : Int) == 99) = false := by simp; omega
          have kq2 : ((kd i : Int) == 97) = false := by simp; omega
          have hrw : (kd i = 114 ∨ kd i = 119) ∧ ky i < 3 := by have := HHK.out; omega
          have HC := fun (_ : Unit) => (span_any KS NK wt num sx mb sa sc mn (kd i) (tx i : Int) (ky i) w3 (HS.out.keep HK3.out.keep id id (fun _ _ q => q)) hrw.1 hrw.2).mono (fun e w' h => (⟨h.1, h.2⟩ : RetSpan wt num (ky i) e ∧ Hid (Keep (fun _ => False) w3 w')))
          have hbO := heap_lt HB3.out
          go_upto_region 8 with (go_at_call 37; refine (HC ()).mono ?_; rintro e w4 ⟨⟨lo, hi', rfl, hsp⟩, HK4⟩)
          clear HC
          have HK5 : Hid _ := HR.out HK4.out
          have HHN : Hid _ := HS.out.nlt (ky i) hrw.2
          have e0' : w4.cell? ⟨bO, 0, none⟩ = some (.int .u8 (kd i : Int)) := (HK4.out.cell ⟨bO, 0, none⟩ hbO id).trans e0
          clear e0 e1 e2 e3 e4 e5 e6 HK4 HR HK3
          rcases hsp with ⟨hw, rfl, hhi⟩ | ⟨hw, rfl, rfl⟩
          · have hnl := HHN.out hw
            generalize num (ky i) = lo at *
            have HH : Hid _ := hhi
            have hlo : (lo : Int) < (hi' : Int) := by omega
            clear HHN hhi
            obtain ⟨g5, cap5, w5, hr5, hv5, hk5, hg5, hl5⟩ := run_push (w4.alloc (.cells #[.int .i64 (u : Int), .int .i64 (lo : Int), .int .i64 (hi' : Int), .int .u8 (kd i : Int)] 131)) 71 131 71 4 32 _ Ybaz.underlying71 inf131 rfl (by decide) (by decide) (some ⟨g, 0, none⟩) NS c _ (HK5.out.vec.alloc _) ⟨w4.heap.size, 0, none⟩ 1 (stc u lo hi' (kd i)) (newS4 w4 u lo hi' (kd i) 131) (fun j _ => stc_one _ _ _ _ j) (by omega)
            have HK6 : Hid (S1 w w5 n NK g5 (NS + 1) cap5 (fun x => if x = NS then u else su x) (fun x => if x = NS then lo else sl x) (fun x => if x = NS then (kd i : Int) else sk x)) := by
              refine ⟨hv5.congr (by decide) (fun x d hx _ => ?_), fun x hx => ?_, fun x hx => ?_, fun x hx => ?_, (HK5.out.keep.trans (Keep.alloc (fun _ => False) _ _) (fun _ q => q.elim)).trans hk5 (fun b q => ?_), ?_⟩
              · by_cases e : x = NS
                · simp [push, e, HH.out]
                · simp [push, e]
              · by_cases e : x = NS
                · simp only [e, if_true]; exact hun
                · simp only [e, if_false]; exact HK5.out.hu x (by omega)
              · by_cases e : x = NS
                · simp only [e, if_true]; exact hnl
                · simp only [e, if_false]; exact HK5.out.hl x (by omega)
              · by_cases e : x = NS
                · simp only [e, if_true]; have := hrw.1; omega
                · simp only [e, if_false]; exact HK5.out.hk x (by omega)
              · simp only [Option.some.injEq, Addr.mk.injEq, and_true] at q
                exact .inr (by omega)
              · have := HK5.out.keep.size
                rcases hg5 with q | q
                · simp only [Option.some.injEq, Addr.mk.injEq, and_true] at q; omega
                · simp at q; omega
            clear hv5 hk5 hg5 hl5 HK5
            go_wp2
            go_roundg (M - (i + 1))
            case measure => omega
            case rel => exact ⟨i + 1, g5, NS + 1, cap5, _, _, _, by omega, rfl, by go_num, rfl, by omega, HK6⟩
          · go_wp2
            go_roundg (M - (i + 1))
            case measure => omega
            case rel => exact ⟨i + 1, g, NS, c, su, sl, sk, by omega, rfl, by go_num, rfl, by omega, HK5⟩
    · obtain rfl : i = M := by omega
      have q1 : ¬ (i : Int) < (i : Int) := by omega
      have HF : Hid (RetSteps w wr i n NK (.returned (.slice (some ⟨g, 0, none⟩) NS c))) := by
        have hr := HK.out.vec.rowk
        exact ⟨g, NS, c, su, sl, sk, rfl, ⟨hr, HK.out.hu, HK.out.hl, HK.out.hk, HK.out.vec.lt rfl⟩, hNS, HK.out.new, HK.out.vec.block_ty rfl⟩
      have HKw : Hid _ := HK.out.keep
      clear HK
      go_wp2
      go_ret
      exact ⟨HF.out, HKw.out⟩
end Go.Proofs.YbulkdvbsGreat

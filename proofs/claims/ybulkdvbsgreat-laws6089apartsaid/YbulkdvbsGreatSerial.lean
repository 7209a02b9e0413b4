/-
  serial, exact; ContainsFunc over NamesVersion.
-/
import Derived.Test.YbulkdvbsGreatSteps
namespace Go.Proofs.YbulkdvbsGreat
open Go.RowKit
attribute [local go_sem ↓] exec_make86

/-- Between two operations of one committed transaction stands none of another. -/
def Ser (tx : Nat → Nat) (com : Nat → Prop) (M : Nat) : Prop := ∀ a b c, a < b → b < c → c < M → tx a = tx c → tx b ≠ tx a → com (tx a) → ¬ com (tx b)
/-- What serial answers. -/
def RetSer (tx : Nat → Nat) (com : Nat → Prop) (M : Nat) (e : Ending) : Prop := ∃ r : Bool, e = .returned (.bool r) ∧ (r = true ↔ Ser tx com M)
/-- The loop's own word: seen, and the last one. -/
structure SI (tx : Nat → Nat) (node : Nat → Option Nat) (i : Nat) (sn : Nat → Bool) (cur : Option Nat) : Prop where
  ok : Ser tx (fun t => (node t).isSome = true) i
  seen : ∀ a u, a < i → node (tx a) = some u → sn u = true
  was : ∀ u, sn u = true → ∃ a, a < i ∧ node (tx a) = some u
  noc : cur = none → ∀ a, a < i → node (tx a) = none
  last : ∀ u, cur = some u → ∃ l, l < i ∧ node (tx l) = some u ∧ ∀ a, l < a → a < i → node (tx a) = none
theorem SI.skip {tx : Nat → Nat} {node : Nat → Option Nat} {i : Nat} {sn : Nat → Bool} {cur : Option Nat} (h : SI tx node i sn cur) (hs : node (tx i) = none) : SI tx node (i + 1) sn cur := by
  refine ⟨fun a b c hab hbc hc e hne hca hcb => ?_, fun a u ha e => ?_, fun u hu => ?_, fun e a ha => ?_, fun u e => ?_⟩
  · by_cases q : c = i
    · subst q; have hca' : (node (tx a)).isSome = true := hca; rw [e, hs] at hca'; simp at hca'
    · exact h.ok a b c hab hbc (by omega) e hne hca hcb
  · by_cases q : a = i
    · subst q; rw [hs] at e; simp at e
    · exact h.seen a u (by omega) e
  · obtain ⟨a, h1, h2⟩ := h.was u hu; exact ⟨a, by omega, h2⟩
  · by_cases q : a = i
    · subst q; exact hs
    · exact h.noc e a (by omega)
  · obtain ⟨l, h1, h2, h3⟩ := h.last u e
    refine ⟨l, by omega, h2, fun a h4 h5 => ?_⟩
    by_cases q : a = i
    · subst q; exact hs
    · exact h3 a h4 (by omega)
theorem SI.same {tx : Nat → Nat} {node : Nat → Option Nat} (hinj : ∀ t t' u, node t = some u → node t' = some u → t = t') {i : Nat} {sn : Nat → Bool} {u : Nat} (h : SI tx node i sn (some u)) (hs : node (tx i) = some u) : SI tx node (i + 1) sn (some u) := by
  obtain ⟨l, h1, h2, h3⟩ := h.last u rfl
  have hti : tx i = tx l := hinj _ _ u hs h2
  refine ⟨fun a b c hab hbc hc e hne hca hcb => ?_, fun a v ha e => ?_, fun v hv => ?_, fun e => by simp at e, fun v e => ?_⟩
  · by_cases q : c = i
    · subst q
      have hbl : b ≤ l := by
        by_cases q2 : b ≤ l
        · exact q2
        · have h4 := h3 b (by omega) hbc; have hcb' : (node (tx b)).isSome = true := hcb; rw [h4] at hcb'; simp at hcb'
      have hbn : b ≠ l := fun q2 => hne (by rw [q2, e, hti])
      exact h.ok a b l hab (by omega) h1 (by rw [e, hti]) hne hca hcb
    · exact h.ok a b c hab hbc (by omega) e hne hca hcb
  · by_cases q : a = i
    · subst q; rw [hs] at e; simp only [Option.some.injEq] at e; subst e; exact h.seen l u h1 h2
    · exact h.seen a v (by omega) e
  · obtain ⟨a, h4, h5⟩ := h.was v hv; exact ⟨a, by omega, h5⟩
  · simp only [Option.some.injEq] at e
    subst e
    exact ⟨i, by omega, hs, fun a h4 h5 => by omega⟩
theorem SI.fresh {tx : Nat → Nat} {node : Nat → Option Nat} {i : Nat} {sn : Nat → Bool} {cur : Option Nat} {u : Nat} (h : SI tx node i sn cur) (hs : node (tx i) = some u) (hn : sn u = false) : SI tx node (i + 1) (fun v => if v = u then true else sn v) (some u) := by
  have hno : ∀ a, a < i → tx a ≠ tx i := fun a ha e => by
    have := h.seen a u ha (by rw [e]; exact hs)
    rw [hn] at this; simp at this
  refine ⟨fun a b c hab hbc hc e hne hca hcb => ?_, fun a v ha e => ?_, fun v hv => ?_, fun e => by simp at e, fun v e => ?_⟩
  · by_cases q : c = i
    · subst q; exact hno a (by omega) e
    · exact h.ok a b c hab hbc (by omega) e hne hca hcb
  · by_cases q : a = i
    · subst q; rw [hs] at e; simp only [Option.some.injEq] at e; subst e; simp
    · have := h.seen a v (by omega) e
      by_cases q2 : v = u <;> simp [q2, this]
  · by_cases q : v = u
    · exact ⟨i, by omega, by rw [q]; exact hs⟩
    · simp only [q, if_false] at hv
      obtain ⟨a, h4, h5⟩ := h.was v hv; exact ⟨a, by omega, h5⟩
  · simp only [Option.some.injEq] at e
    subst e
    exact ⟨i, by omega, hs, fun a h4 h5 => by omega⟩
theorem SI.bad {tx : Nat → Nat} {node : Nat → Option Nat} (hinj : ∀ t t' u, node t = some u → node t' = some u → t = t') {i M : Nat} {sn : Nat → Bool} {cur : Option Nat} {u : Nat} (h : SI tx node i sn cur) (hs : node (tx i) = some u) (hc : cur ≠ some u) (hn : sn u = true) (hi : i < M) : ¬ Ser tx (fun t => (node t).isSome = true) M := by
  intro ho
  obtain ⟨a, h1, h2⟩ := h.was u hn
  have ea : tx a = tx i := hinj _ _ u h2 hs
  cases hcur : cur with
  | none =>
    have := h.noc hcur a h1
    rw [h2] at this; simp at this
  | some v =>
    obtain ⟨l, h3, h4, h5⟩ := h.last v hcur
    have hvu : v ≠ u := fun e => hc (by rw [hcur, e])
    have hal : a < l := by
      by_cases q : a = l
      · rw [q, h4] at h2; simp at h2; exact absurd h2 hvu
      · by_cases q2 : l < a
        · have := h5 a q2 h1; rw [h2] at this; simp at this
        · omega
    exact ho a l i hal h3 hi ea (fun e => by rw [e, h2] at h4; simp at h4; exact hvu h4.symm) (by show (node (tx a)).isSome = true; rw [h2]; rfl) (by show (node (tx l)).isSome = true; rw [h4]; rfl)
/-- The last one, as a number. -/
def curI (cur : Option Nat) : Int := match cur with | some u => (u : Int) | none => -1
/-- serial's memory. -/
structure SM (w wr : World) (n : Nat) (sn : Nat → Bool) : Prop where
  row : Row wr w.heap.size n (fun i => .bool (sn i))
  lt : w.heap.size < wr.heap.size
  keep : Keep (fun _ => False) w wr
theorem SM.keepF {w wr w' : World} {n : Nat} {sn : Nat → Bool} (h : SM w wr n sn) (k : Keep (fun _ => False) wr w') : SM w w' n sn := ⟨h.row.keep (k.block _ h.lt id), Nat.lt_of_lt_of_le h.lt k.size, h.keep.trans k (fun _ q => q.elim)⟩
set_option maxHeartbeats 8000000 in
set_option maxRecDepth 100000 in
theorem serial_any (OB M oc : Nat) (kd tx ky : Nat → Nat) (nb nn n : Nat) (node : Nat → Option Nat) (w : World) (h : OP w OB M kd tx ky) (hn : NM w nb nn n node) (hlen : ∀ L, KeysOf (intM .u64 (nodeF node)) L → L.length = n) (hn5 : n ≤ 5) :
    Calls Ybaz.prog 9 #[.slice (some ⟨OB, 0, none⟩) M oc, .map (some nb)] w fun e w' => RetSer tx (fun t => (node t).isSome = true) M e ∧ Keep (fun _ => False) w w' := by
  have HO : Hid _ := h
  have HN : Hid _ := hn
  have hM := h.hM
  have hM' : (M : Int) ≤ 2000 := by omega
  obtain ⟨L, hL, _, hrl⟩ := hn.map.len (t := 49) keyed31 Ybaz.underlying49
  rw [hlen L hL] at hrl
  have r86 := run_mkv 86 4 (.bool false) 1 1 Ybaz.underlying86 inf4 (by omega) w n (by omega)
  clear h hn hL
  go_enter Ybaz.func9, Ybaz.ntmps9
  go_wp2
  have HS0 : Hid (SM w (w.alloc (.cells (mc (.bool false) 1 n) 4)) n (fun _ => false)) := ⟨Row.made1 (w.alloc (.cells (mc (.bool false) 1 n) 4)) w.heap.size n (.bool false) 4 rfl (heap_alloc_new _ _), by simp, Keep.alloc _ _ _⟩
  clear hrl r86
  generalize w.alloc (.cells (mc (.bool false) 1 n) 4) = w1 at *
  go_loopg [6, 16] M (fun gk s6 s wr => ∃ (i : Nat) (sn : Nat → Bool) (cur : Option Nat), i ≤ M ∧ s6 = .int .i64 (curI cur) ∧ s = .int .i64 (i : Int) ∧ gk = M - i ∧ Hid (SM w wr n sn) ∧ Hid (SI tx node i sn cur))
  case atStart => exact ⟨0, _, none, Nat.zero_le _, rfl, rfl, rfl, HS0, ⟨fun a b c _ _ hc => by omega, fun a u ha => by omega, fun u hu => by simp at hu, fun _ a ha => by omega, fun u e => by simp at e⟩⟩
  case round =>
    clear HS0
    obtain ⟨i, sn, cur, hi, rfl, rfl, rfl, HS, HI⟩ := hrel
    by_cases hlt : i < M
    · have i1 : (i : Int) < (M : Int) := by omega
      have i2 : (i : Int).toNat = i := by omega
      obtain ⟨e0, e1, e2, e3, e4, e5, e6⟩ := (HO.out.keep HS.out.keep id).cell i hlt
      have ht := HO.out.ht i hlt
      have kA := Keep.alloc (fun _ => False) wr (.cells #[.int .u8 (kd i : Int), .int .u64 (tx i : Int), .string (kstr (ky i)), .string ⟨#[]⟩, .bool false, .int .u64 0, .slice none 0 0] 34)
      have hL := (HN.out.keep (HS.out.keep.trans kA (fun _ q => q.elim)) id).look (tx i) ht.2
      have hnu := HN.out.lt (tx i)
      have HS3 : Hid _ := HS.out.keepF kA
      clear kA HS
      go_upto_region 7 with fail
      clear hL e0 e1 e2 e3 e4 e5 e6
      generalize (wr.alloc (.cells #[.int .u8 (kd i : Int), .int .u64 (tx i : Int), .string (kstr (ky i)), .string ⟨#[]⟩, .bool false, .int .u64 0, .slice none 0 0] 34)) = w3 at *
      generalize wr.heap.size = bO at *
      have HX : Hid (∀ nd, node (tx i) = nd → (nd = none → SI tx node (i + 1) sn cur) ∧ (∀ u, nd = some u → (cur = some u → SI tx node (i + 1) sn cur) ∧ (sn u = false → SI tx node (i + 1) (fun v => if v = u then true else sn v) (some u)) ∧ (cur ≠ some u → sn u = true → ¬ Ser tx (fun t => (node t).isSome = true) M))) := fun nd hnd => ⟨fun e => HI.out.skip (hnd.trans e), fun u e => ⟨fun ec => by
          have := HI.out
          rw [ec] at this ⊢
          exact this.same HN.out.inj (hnd.trans e), fun es => HI.out.fresh (hnd.trans e) es, fun ec es => HI.out.bad HN.out.inj (hnd.trans e) ec es hlt⟩⟩
      have HXX : Hid _ := HX.out _ rfl
      clear HX
      generalize node (tx i) = nd at *
      cases nd with
      | none =>
        go_wp2
        go_roundg (M - (i + 1))
        case measure => omega
        case rel => exact ⟨i + 1, sn, cur, by omega, rfl, by go_num, rfl, HS3, HXX.out.1 (by first | rfl | trivial)⟩
      | some u =>
        have hun := hnu u rfl
        have u1 : (u : Int) < (n : Int) := by omega
        have u2 : (u : Int).toNat = u := by omega
        obtain ⟨x1, x2, x3⟩ := HXX.out.2 u rfl
        have X1 : Hid _ := x1
        have X2 : Hid _ := x2
        have X3 : Hid _ := x3
        clear x1 x2 x3 HXX
        by_cases hcu : cur = some u
        · subst hcu
          have cq : ((u : Int) == curI (some u)) = true := by simp [curI]
          go_wp2
          go_roundg (M - (i + 1))
          case measure => omega
          case rel => exact ⟨i + 1, sn, some u, by omega, rfl, by go_num, rfl, HS3, X1.out (by first | rfl | trivial)⟩
        · have cq : ((u : Int) == curI cur) = false := by
            cases cur with
            | none => simp [curI]
            | some v => simp [curI]; intro e; exact hcu (by simp; omega)
          have es := HS3.out.row.cell u hun
          have fs := HS3.out.row.free u
          cases hsn : sn u with
          | true =>
            rw [hsn] at es
            have HF : Hid (RetSer tx (fun t => (node t).isSome = true) M (.returned (.bool false))) := ⟨false, rfl, by simpa using X3.out hcu hsn⟩
            have HKw : Hid _ := HS3.out.keep
            clear X1 X2 X3 HS3
            go_wp2
            go_ret
            exact ⟨HF.out, HKw.out⟩
          | false =>
            rw [hsn] at es
            have HI4 : Hid _ := X2.out hsn
            have HS4 : Hid (SM w (w3.setCell ⟨w.heap.size, u, none⟩ (.bool true)) n (fun v => if v = u then true else sn v)) := by
              have kS := Keep.setCell w3 ⟨w.heap.size, u, none⟩ (.bool true)
              exact ⟨(HS3.out.row.set u (.bool true) hun).congr (fun v _ => by by_cases e : v = u <;> simp [e]), Nat.lt_of_lt_of_le HS3.out.lt kS.size, HS3.out.keep.trans kS (fun b (q : b = w.heap.size) => .inr (by omega))⟩
            clear X1 X2 X3 HS3 hsn
            go_wp2
            clear es fs
            generalize w3.setCell ⟨w.heap.size, u, none⟩ (.bool true) = w5 at *
            go_roundg (M - (i + 1))
            case measure => omega
            case rel => exact ⟨i + 1, _, some u, by omega, rfl, by go_num, rfl, HS4, HI4⟩
    · obtain rfl : i = M := by omega
      have q1 : ¬ (i : Int) < (i : Int) := by omega
      have HF : Hid (RetSer tx (fun t => (node t).isSome = true) i (.returned (.bool true))) := ⟨true, rfl, by simpa using HI.out.ok⟩
      have HKw : Hid _ := HS.out.keep
      clear HS HI
      go_wp2
      go_ret
      exact ⟨HF.out, HKw.out⟩
end Go.Proofs.YbulkdvbsGreat

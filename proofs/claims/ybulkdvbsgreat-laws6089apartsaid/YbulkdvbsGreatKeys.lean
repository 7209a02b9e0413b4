/-
  The operations in memory; the key space: newKeySpace, span.
-/
import Derived.Test.YbulkdvbsGreatMap
import Derived.Test.YbulkdvbsGreatApp
import Derived.Test.YbulkdvbsGreatSortS
import Derived.Deep.LoopGhost
namespace Go.Proofs.YbulkdvbsGreat
open Go.RowKit

/-- The keys' texts. -/
def kstr (j : Nat) : ByteArray := if j = 0 then ⟨#[97]⟩ else if j = 1 then ⟨#[98]⟩ else if j = 2 then ⟨#[99]⟩ else ⟨#[]⟩
/-- The cells of an operation. -/
def opc (kd tx ky : Nat → Nat) (i c : Nat) : Value := if c = 0 then .int .u8 (kd i : Int) else if c = 1 then .int .u64 (tx i : Int) else if c = 2 then .string (kstr (ky i)) else if c = 3 then .string ⟨#[]⟩ else if c = 4 then .bool false else if c = 5 then .int .u64 0 else .slice none 0 0
/-- M operations, in block OB. -/
structure OP (w : World) (OB M : Nat) (kd tx ky : Nat → Nat) : Prop where
  row : RowK w OB M 7 (opc kd tx ky)
  hM : M ≤ 2000
  hk : ∀ i, i < M → (kd i = 114 ∨ kd i = 119) ∧ ky i < 3 ∨ (kd i = 99 ∨ kd i = 97) ∧ ky i = 3
  ht : ∀ i, i < M → 1 ≤ tx i ∧ tx i ≤ 5
  lt : OB < w.heap.size
theorem OP.keep {F : Nat → Prop} {w w' : World} {OB M : Nat} {kd tx ky : Nat → Nat} (h : OP w OB M kd tx ky) (k : Keep F w w') (hF : ¬ F OB) : OP w' OB M kd tx ky :=
  ⟨h.row.keep (k.block OB h.lt hF), h.hM, h.hk, h.ht, Nat.lt_of_lt_of_le h.lt k.size⟩
theorem OP.cell {w : World} {OB M : Nat} {kd tx ky : Nat → Nat} (h : OP w OB M kd tx ky) (i : Nat) (hi : i < M) : w.cell? ⟨OB, i * 7, none⟩ = some (.int .u8 (kd i : Int)) ∧ w.cell? ⟨OB, i * 7 + 1, none⟩ = some (.int .u64 (tx i : Int)) ∧ w.cell? ⟨OB, i * 7 + 2, none⟩ = some (.string (kstr (ky i))) ∧ w.cell? ⟨OB, i * 7 + 3, none⟩ = some (.string ⟨#[]⟩) ∧ w.cell? ⟨OB, i * 7 + 4, none⟩ = some (.bool false) ∧ w.cell? ⟨OB, i * 7 + 5, none⟩ = some (.int .u64 0) ∧ w.cell? ⟨OB, i * 7 + 6, none⟩ = some (.slice none 0 0) :=
  ⟨h.row.cell i 0 hi (by omega), h.row.cell i 1 hi (by omega), h.row.cell i 2 hi (by omega), h.row.cell i 3 hi (by omega), h.row.cell i 4 hi (by omega), h.row.cell i 5 hi (by omega), h.row.cell i 6 hi (by omega)⟩

/-- A key, as a map's key. -/
def klit (j : Nat) : Lit := .string (kstr j).data.toList
theorem klit_inj {i j : Nat} (hi : i ≤ 3) (hj : j ≤ 3) (h : klit i = klit j) : i = j := by
  have hi' : i = 0 ∨ i = 1 ∨ i = 2 ∨ i = 3 := by omega
  have hj' : j = 0 ∨ j = 1 ∨ j = 2 ∨ j = 3 := by omega
  rcases hi' with rfl | rfl | rfl | rfl <;> rcases hj' with rfl | rfl | rfl | rfl <;> first | rfl | (exfalso; simp [klit, kstr] at h)
theorem kkey (j : Nat) : keyOf Ybaz.prog 9 (.string (kstr j)) = some (klit j) := by
  have h3 : j = 0 ∨ j = 1 ∨ j = 2 ∨ 3 ≤ j := by omega
  have : (kstr j).size ≤ maxLen := by
    unfold kstr
    rcases h3 with rfl | rfl | rfl | h3
    · decide
    · decide
    · decide
    · rw [if_neg (by omega), if_neg (by omega), if_neg (by omega)]; decide
  simp [keyOf, Ybaz.underlying9, mapKey, klit, this]
/-- A function of keys' numbers, as one of keys. -/
def keyM (f : Nat → Option Value) : Lit → Option Value := fun l => @ite _ (l = klit 0) (litDec l (klit 0)) (f 0) (@ite _ (l = klit 1) (litDec l (klit 1)) (f 1) (@ite _ (l = klit 2) (litDec l (klit 2)) (f 2) none))
theorem keyM_at (f : Nat → Option Value) (j : Nat) (hj : j < 3) : keyM f (klit j) = f j := by
  have hj' : j = 0 ∨ j = 1 ∨ j = 2 := by omega
  rcases hj' with rfl | rfl | rfl <;> simp [keyM, klit, kstr]
theorem keyM_3 (f : Nat → Option Value) : keyM f (klit 3) = none := by simp [keyM, klit, kstr]
theorem keyM_none : (fun _ => none) = keyM (fun _ => none) := by funext l; simp [keyM]
theorem keyM_put (f : Nat → Option Value) (j : Nat) (hj : j < 3) (v : Value) : mput (keyM f) (klit j) v = keyM (fun i => if i = j then some v else f i) := by
  funext l
  have hj' : j = 0 ∨ j = 1 ∨ j = 2 := by omega
  have n01 : klit 0 ≠ klit 1 := fun e => absurd (klit_inj (by omega) (by omega) e) (by omega)
  have n02 : klit 0 ≠ klit 2 := fun e => absurd (klit_inj (by omega) (by omega) e) (by omega)
  have n12 : klit 1 ≠ klit 2 := fun e => absurd (klit_inj (by omega) (by omega) e) (by omega)
  by_cases e0 : l = klit 0
  · subst e0
    rcases hj' with rfl | rfl | rfl <;> simp [mput, keyM, n01, n02]
  · by_cases e1 : l = klit 1
    · subst e1
      rcases hj' with rfl | rfl | rfl <;> simp [mput, keyM, n12, n01.symm]
    · by_cases e2 : l = klit 2
      · subst e2
        rcases hj' with rfl | rfl | rfl <;> simp [mput, keyM, n02.symm, n12.symm]
      · rcases hj' with rfl | rfl | rfl <;> simp [mput, keyM, e0, e1, e2]
theorem keyed9 : Maps.Keyed Ybaz.prog 9 := Maps.string_keyed Ybaz.underlying9
theorem zero3 (w : World) : (zeroValue 3).run Ybaz.prog w = .ok (.int .i64 0) w := by kernel_rfl

/-- Key j is written ahead of operation i. -/
def Wrt (kd ky : Nat → Nat) (i j : Nat) : Prop := ∃ a, a < i ∧ kd a = 119 ∧ ky a = j
/-- The key space: block KS; the numbers of the keys, num, where they are written; NK of them. -/
structure KSp (w : World) (KS NK : Nat) (wr : Nat → Prop) (num : Nat → Nat) (sx : Nat → ByteArray) (mb : Nat) (sa : Option Addr) (sc mn : Nat) : Prop where
  blk : w.heap[KS]? = some (.cells #[.map (some mb), .slice sa NK sc] 77)
  map : ∃ m : Nat → Option Value, MP w 9 mb mn (keyM m) ∧ (∀ j, j < 3 → wr j → m j = some (.int .i64 (num j : Int))) ∧ (∀ j, j < 3 → ¬ wr j → m j = none)
  nk : NK ≤ 3
  nlt : ∀ j, j < 3 → wr j → num j < NK
  inj : ∀ i j, i < 3 → j < 3 → wr i → wr j → num i = num j → i = j
  row : 0 < NK → ∃ g, sa = some ⟨g, 0, none⟩ ∧ g < w.heap.size ∧ Row w g NK (fun i => .string (sx i))
theorem KSp.keep {w w' : World} {KS NK : Nat} {wr : Nat → Prop} {num : Nat → Nat} {sx : Nat → ByteArray} {mb : Nat} {sa : Option Addr} {sc mn : Nat} (h : KSp w KS NK wr num sx mb sa sc mn) {F : Nat → Prop} (k : Keep F w w') (h1 : ¬ F KS) (h2 : ¬ F mb) (h3 : ∀ g, sa = some ⟨g, 0, none⟩ → ¬ F g) : KSp w' KS NK wr num sx mb sa sc mn := by
  obtain ⟨m, hm, r1, r2⟩ := h.map
  refine ⟨k.at h.blk h1, ⟨m, hm.keep k h2, r1, r2⟩, h.nk, h.nlt, h.inj, fun h0 => ?_⟩
  obtain ⟨g, e, hg, r⟩ := h.row h0
  exact ⟨g, e, Nat.lt_of_lt_of_le hg k.size, r.keep (k.block g hg (h3 g e))⟩

set_option maxHeartbeats 4000000 in
set_option maxRecDepth 100000 in
theorem span_yes (KS mb nj k : Nat) (t : Int) (j : Nat) (w : World) (hk : k = 114 ∨ k = 119) (hn : nj < 3)
    (hL : (Instr.lookup 74 (.map (some mb)) (.string (kstr j)) true).run Ybaz.prog (w.alloc (.cells #[.int .u8 (k : Int), .int .u64 t, .string (kstr j), .string ⟨#[]⟩, .bool false, .int .u64 0, .slice none 0 0] 34)).drew = .ok (.tuple #[.int .i64 (nj : Int), .bool true]) (w.alloc (.cells #[.int .u8 (k : Int), .int .u64 t, .string (kstr j), .string ⟨#[]⟩, .bool false, .int .u64 0, .slice none 0 0] 34)).drew)
    (c0 : (w.alloc (.cells #[.int .u8 (k : Int), .int .u64 t, .string (kstr j), .string ⟨#[]⟩, .bool false, .int .u64 0, .slice none 0 0] 34)).cell? ⟨KS, 0, none⟩ = some (.map (some mb))) :
    Calls Ybaz.prog 37 #[.pointer (some ⟨KS, 0, none⟩), .agg #[.int .u8 (k : Int), .int .u64 t, .string (kstr j), .string ⟨#[]⟩, .bool false, .int .u64 0, .slice none 0 0]] w fun e w' => e = .returned (.tuple #[.int .i64 (nj : Int), .int .i64 ((nj : Int) + 1)]) ∧ Keep (fun _ => False) w w' := by
  have HK : Hid _ := (Keep.alloc (fun _ => False) w (.cells #[.int .u8 (k : Int), .int .u64 t, .string (kstr j), .string ⟨#[]⟩, .bool false, .int .u64 0, .slice none 0 0] 34)).drew
  have k1 : ¬ (k : Int) = 115 := by omega
  have n1 : (nj : Int) < 3 := by omega
  clear hk hn
  go_enter Ybaz.func37, Ybaz.ntmps37
  go_upto_region 7 with fail
  go_region
  clear hL c0
  generalize (w.alloc (.cells #[.int .u8 (k : Int), .int .u64 t, .string (kstr j), .string ⟨#[]⟩, .bool false, .int .u64 0, .slice none 0 0] 34)).drew = w1 at *
  go_wp2
  go_ret2
  exact ⟨rfl, HK.out⟩
set_option maxHeartbeats 4000000 in
set_option maxRecDepth 100000 in
theorem span_no (KS mb k : Nat) (t : Int) (j : Nat) (w : World) (hk : k = 114 ∨ k = 119)
    (hL : (Instr.lookup 74 (.map (some mb)) (.string (kstr j)) true).run Ybaz.prog (w.alloc (.cells #[.int .u8 (k : Int), .int .u64 t, .string (kstr j), .string ⟨#[]⟩, .bool false, .int .u64 0, .slice none 0 0] 34)).drew = .ok (.tuple #[.int .i64 0, .bool false]) (w.alloc (.cells #[.int .u8 (k : Int), .int .u64 t, .string (kstr j), .string ⟨#[]⟩, .bool false, .int .u64 0, .slice none 0 0] 34)).drew)
    (c0 : (w.alloc (.cells #[.int .u8 (k : Int), .int .u64 t, .string (kstr j), .string ⟨#[]⟩, .bool false, .int .u64 0, .slice none 0 0] 34)).cell? ⟨KS, 0, none⟩ = some (.map (some mb))) :
    Calls Ybaz.prog 37 #[.pointer (some ⟨KS, 0, none⟩), .agg #[.int .u8 (k : Int), .int .u64 t, .string (kstr j), .string ⟨#[]⟩, .bool false, .int .u64 0, .slice none 0 0]] w fun e w' => e = .returned (.tuple #[.int .i64 0, .int .i64 0]) ∧ Keep (fun _ => False) w w' := by
  have HK : Hid _ := (Keep.alloc (fun _ => False) w (.cells #[.int .u8 (k : Int), .int .u64 t, .string (kstr j), .string ⟨#[]⟩, .bool false, .int .u64 0, .slice none 0 0] 34)).drew
  have k1 : ¬ (k : Int) = 115 := by omega
  clear hk
  go_enter Ybaz.func37, Ybaz.ntmps37
  go_upto_region 7 with fail
  go_region
  clear hL c0
  generalize (w.alloc (.cells #[.int .u8 (k : Int), .int .u64 t, .string (kstr j), .string ⟨#[]⟩, .bool false, .int .u64 0, .slice none 0 0] 34)).drew = w1 at *
  go_wp2
  go_ret2
  exact ⟨rfl, HK.out⟩
/-- Where the keys of an operation lie. -/
def SpanAt (wr : Nat → Prop) (num : Nat → Nat) (j : Nat) (lo hi : Nat) : Prop := wr j ∧ lo = num j ∧ hi = num j + 1 ∨ ¬ wr j ∧ lo = 0 ∧ hi = 0
/-- What span answers. -/
def RetSpan (wr : Nat → Prop) (num : Nat → Nat) (j : Nat) (e : Ending) : Prop := ∃ lo hi : Nat, e = .returned (.tuple #[.int .i64 (lo : Int), .int .i64 (hi : Int)]) ∧ SpanAt wr num j lo hi
/-- span, of a read or a write. -/
theorem span_any (KS NK : Nat) (wr : Nat → Prop) (num : Nat → Nat) (sx : Nat → ByteArray) (mb : Nat) (sa : Option Addr) (sc mn : Nat) (k : Nat) (t : Int) (j : Nat) (w : World) (h : KSp w KS NK wr num sx mb sa sc mn) (hk : k = 114 ∨ k = 119) (hj : j < 3) :
    Calls Ybaz.prog 37 #[.pointer (some ⟨KS, 0, none⟩), .agg #[.int .u8 (k : Int), .int .u64 t, .string (kstr j), .string ⟨#[]⟩, .bool false, .int .u64 0, .slice none 0 0]] w fun e w' => RetSpan wr num j e ∧ Keep (fun _ => False) w w' := by
  obtain ⟨m, hm, r1, r2⟩ := h.map
  have kb := Keep.alloc (fun _ => False) w (.cells #[.int .u8 (k : Int), .int .u64 t, .string (kstr j), .string ⟨#[]⟩, .bool false, .int .u64 0, .slice none 0 0] 34)
  have hL := (hm.keep kb.drew id).look_ok keyed9 Ybaz.underlying74 (zero3 _) (kkey j)
  rw [keyM_at m j hj] at hL
  have c0 := cell_of _ KS 0 _ _ (kb.at h.blk id)
  by_cases hw : wr j
  · rw [r1 j hj hw] at hL
    have hn : num j < 3 := Nat.lt_of_lt_of_le (h.nlt j hj hw) h.nk
    refine (span_yes KS mb (num j) k t j w hk hn hL c0).mono ?_
    rintro e w' ⟨rfl, k⟩
    exact ⟨⟨num j, num j + 1, by simp, .inl ⟨hw, rfl, rfl⟩⟩, k⟩
  · rw [r2 j hj hw] at hL
    refine (span_no KS mb k t j w hk hL c0).mono ?_
    rintro e w' ⟨rfl, k⟩
    exact ⟨⟨0, 0, by simp, .inr ⟨hw, rfl, rfl⟩⟩, k⟩
/-- The list of the keys written: n of them, srt. -/
structure Lst (wr : Nat → Prop) (n : Nat) (srt : Nat → Nat) : Prop where
  n3 : n ≤ 3
  lt : ∀ x, x < n → srt x < 3 ∧ wr (srt x)
  all : ∀ j, wr j → ∃ x, x < n ∧ srt x = j
  inj : ∀ x y, x < n → y < n → srt x = srt y → x = y
theorem three_keys {n : Nat} {f : Nat → Nat} (lt : ∀ x, x < n → f x < 3) (inj : ∀ x y, x < n → y < n → f x = f y → x = y) : n ≤ 3 := by
  by_cases h : n ≤ 3
  · exact h
  · exfalso
    have a0 := lt 0 (by omega); have a1 := lt 1 (by omega); have a2 := lt 2 (by omega); have a3 := lt 3 (by omega)
    have b01 : f 0 ≠ f 1 := fun e => absurd (inj 0 1 (by omega) (by omega) e) (by omega)
    have b02 : f 0 ≠ f 2 := fun e => absurd (inj 0 2 (by omega) (by omega) e) (by omega)
    have b03 : f 0 ≠ f 3 := fun e => absurd (inj 0 3 (by omega) (by omega) e) (by omega)
    have b12 : f 1 ≠ f 2 := fun e => absurd (inj 1 2 (by omega) (by omega) e) (by omega)
    have b13 : f 1 ≠ f 3 := fun e => absurd (inj 1 3 (by omega) (by omega) e) (by omega)
    have b23 : f 2 ≠ f 3 := fun e => absurd (inj 2 3 (by omega) (by omega) e) (by omega)
    omega
theorem wrt_step_no {kd ky : Nat → Nat} {i j : Nat} (h : ¬ (kd i = 119 ∧ ky i = j)) : Wrt kd ky (i + 1) j ↔ Wrt kd ky i j :=
  ⟨fun ⟨a, h1, h2, h3⟩ => ⟨a, by
    have : a ≠ i := fun e => h (by subst e; exact ⟨h2, h3⟩)
    omega, h2, h3⟩, fun ⟨a, h1, h2, h3⟩ => ⟨a, by omega, h2, h3⟩⟩
theorem Lst.same {wr wr' : Nat → Prop} {n : Nat} {srt : Nat → Nat} (h : Lst wr n srt) (e : ∀ j, wr' j ↔ wr j) : Lst wr' n srt := ⟨h.n3, fun x hx => ⟨(h.lt x hx).1, (e _).2 (h.lt x hx).2⟩, fun j hj => h.all j ((e j).1 hj), h.inj⟩
theorem Lst.more {kd ky : Nat → Nat} {i n : Nat} {srt : Nat → Nat} (h : Lst (Wrt kd ky i) n srt) (hk : kd i = 119) (hy : ky i < 3) (hn : ¬ Wrt kd ky i (ky i)) : Lst (Wrt kd ky (i + 1)) (n + 1) (fun x => if x = n then ky i else srt x) := by
  have l1 : ∀ x, x < n + 1 → (fun x => if x = n then ky i else srt x) x < 3 := fun x hx => by
    by_cases e : x = n
    · simp only [e, if_true]; exact hy
    · simp only [e, if_false]; exact (h.lt x (by omega)).1
  have l2 : ∀ x y, x < n + 1 → y < n + 1 → (fun x => if x = n then ky i else srt x) x = (fun x => if x = n then ky i else srt x) y → x = y := fun x y hx hy' e => by
    by_cases e1 : x = n <;> by_cases e2 : y = n
    · omega
    · simp only [e1, e2, if_true, if_false] at e
      exact absurd (e ▸ (h.lt y (by omega)).2) hn
    · simp only [e1, e2, if_true, if_false] at e
      exact absurd (e.symm ▸ (h.lt x (by omega)).2) hn
    · simp only [e1, e2, if_false] at e
      exact h.inj x y (by omega) (by omega) e
  refine ⟨three_keys l1 l2, fun x hx => ⟨l1 x hx, ?_⟩, fun j hj => ?_, l2⟩
  · by_cases e : x = n
    · simp only [e, if_true]; exact ⟨i, by omega, hk, rfl⟩
    · simp only [e, if_false]
      obtain ⟨a, h1, h2⟩ := (h.lt x (by omega)).2
      exact ⟨a, by omega, h2⟩
  · by_cases e : ky i = j
    · exact ⟨n, by omega, by simp [e]⟩
    · obtain ⟨x, hx, hs⟩ := h.all j ((wrt_step_no (fun q => e q.2)).1 hj)
      exact ⟨x, by omega, by simp only [show ¬ x = n by omega, if_false]; exact hs⟩
attribute [local go_sem ↓ 2000] exec_app

/-- Behind the sort of a slice of texts. -/
def Sorted9 (wr w' : World) (a : Option Addr) (n : Nat) (f : Nat → ByteArray) : Prop := ∃ σ, Bij n σ ∧ (0 < n → ∃ g, a = some ⟨g, 0, none⟩ ∧ g < wr.heap.size ∧ Row w' g n (fun i => .string (f (σ i)))) ∧ Keep (fun k => a = some ⟨k, 0, none⟩) wr w'
theorem sort_vec (a : Option Addr) (n c : Nat) (f : Nat → ByteArray) (w : World) (hn : n ≤ 12) (h : Vec w 9 1 a n c (fun x _ => .string (f x))) :
    Calls Ybaz.prog 22 #[.slice a n c] w fun e w' => e = .returned (.tuple #[]) ∧ Sorted9 w w' a n f := by
  by_cases h0 : 0 < n
  · obtain ⟨g, rfl, hg, hr⟩ := h.blk h0
    refine (sort_str (some ⟨g, 0, none⟩) g n c f w hn (fun _ => rfl) ⟨fun x hx => by have := hr.cell x 0 hx (by omega); simpa using this, hr.free⟩).mono ?_
    rintro e w' ⟨rfl, σ, hs, r, k⟩
    exact ⟨rfl, σ, hs, fun _ => ⟨g, rfl, hg, r⟩, k.wide (fun i q => by rw [q])⟩
  · obtain rfl : n = 0 := by omega
    refine (sort_str a w.heap.size 0 c f w hn (fun q => absurd q h0) ⟨fun x hx => by omega, fun i => by simp [World.frozen?]⟩).mono ?_
    rintro e w' ⟨rfl, σ, hs, r, k⟩
    exact ⟨rfl, σ, hs, fun q => absurd q h0, ⟨k.os, k.tape, k.output, k.size, fun i hi _ => k.block i hi (by omega)⟩⟩
theorem Lst.shuf {wr : Nat → Prop} {n : Nat} {srt σ : Nat → Nat} (h : Lst wr n srt) (hs : Bij n σ) : Lst wr n (fun x => srt (σ x)) := by
  obtain ⟨q, hq⟩ := hs
  refine ⟨h.n3, fun x hx => h.lt _ (hq x hx).1, fun j hj => ?_, fun x y hx hy e => ?_⟩
  · obtain ⟨x, hx, e⟩ := h.all j hj
    exact ⟨q x, (hq x hx).2.1, by show srt (σ (q x)) = j; rw [(hq x hx).2.2.2]; exact e⟩
  · have := h.inj _ _ (hq x hx).1 (hq y hy).1 e
    rw [← (hq x hx).2.2.1, ← (hq y hy).2.2.1, this]
theorem Lst.num {wr : Nat → Prop} {n : Nat} {srt : Nat → Nat} (h : Lst wr n srt) : ∃ num : Nat → Nat, ∀ j, wr j → num j < n ∧ srt (num j) = j := by
  classical
  refine ⟨fun j => if q : ∃ x, x < n ∧ srt x = j then q.choose else 0, fun j hj => ?_⟩
  have q := h.all j hj
  simp only [q, dif_pos]
  exact q.choose_spec
/-- Loop 2 of newKeySpace: memory. -/
structure K2 (w wr : World) (kd ky : Nat → Nat) (M x n : Nat) (srt : Nat → Nat) (a : Option Addr) (c : Nat) : Prop where
  blk : wr.heap[w.heap.size + 1]? = some (.cells #[.map (some w.heap.size), .slice a n c] 77)
  map : ∃ m : Nat → Option Value, MP wr 9 w.heap.size (M + x) (keyM m) ∧ (∀ j, j < 3 → ((m j).isSome = true ↔ Wrt kd ky M j)) ∧ ∀ y, y < x → m (srt y) = some (.int .i64 (y : Int))
  row : 0 < n → ∃ g, a = some ⟨g, 0, none⟩ ∧ g < wr.heap.size ∧ Row wr g n (fun i => .string (kstr (srt i))) ∧ g ≠ w.heap.size
  lst : Lst (Wrt kd ky M) n srt
  keep : Keep (fun _ => False) w wr
  new : ∀ g, a = some ⟨g, 0, none⟩ → w.heap.size ≤ g
/-- What newKeySpace has made. -/
def NewKS (w w' : World) (kd ky : Nat → Nat) (M : Nat) (e : Ending) : Prop := ∃ KS NK num sx mb sa sc mn, e = .returned (.pointer (some ⟨KS, 0, none⟩)) ∧ KSp w' KS NK (Wrt kd ky M) num sx mb sa sc mn ∧ w.heap.size ≤ KS ∧ w.heap.size ≤ mb ∧ ∀ g, sa = some ⟨g, 0, none⟩ → w.heap.size ≤ g
/-- Loop 1 of newKeySpace: memory. -/
structure K1 (w wr : World) (kd ky : Nat → Nat) (i n : Nat) (srt : Nat → Nat) (a : Option Addr) (c : Nat) : Prop where
  blk : wr.heap[w.heap.size + 1]? = some (.cells #[.map (some w.heap.size), .slice a n c] 77)
  map : ∃ m : Nat → Option Value, MP wr 9 w.heap.size i (keyM m) ∧ ∀ j, j < 3 → ((m j).isSome = true ↔ Wrt kd ky i j)
  vec : Vec wr 9 1 a n c (fun x _ => .string (kstr (srt x)))
  lst : Lst (Wrt kd ky i) n srt
  keep : Keep (fun _ => False) w wr
  new : ∀ g, a = some ⟨g, 0, none⟩ → w.heap.size ≤ g
theorem K1.keepF {w wr w' : World} {kd ky : Nat → Nat} {i n : Nat} {srt : Nat → Nat} {a : Option Addr} {c : Nat} (h : K1 w wr kd ky i n srt a c) (k : Keep (fun _ => False) wr w') : K1 w w' kd ky i n srt a c := by
  obtain ⟨m, hm, r⟩ := h.map
  exact ⟨k.at h.blk id, ⟨m, hm.keep k id, r⟩, h.vec.keep k (fun _ _ q => q), h.lst, h.keep.trans k (fun _ q => .inl q), h.new⟩
theorem K1.next {w wr : World} {kd ky : Nat → Nat} {i n : Nat} {srt : Nat → Nat} {a : Option Addr} {c : Nat} (h : K1 w wr kd ky i n srt a c) (hn : kd i = 119 → Wrt kd ky i (ky i)) : K1 w wr kd ky (i + 1) n srt a c := by
  obtain ⟨m, hm, r⟩ := h.map
  have e : ∀ j, Wrt kd ky (i + 1) j ↔ Wrt kd ky i j := fun j => by
    by_cases q : kd i = 119 ∧ ky i = j
    · obtain ⟨q1, rfl⟩ := q
      exact ⟨fun _ => hn q1, fun _ => ⟨i, by omega, q1, rfl⟩⟩
    · exact wrt_step_no q
  exact ⟨h.blk, ⟨m, hm.mono (Nat.le_succ _), fun j hj => (r j hj).trans (e j).symm⟩, h.vec, h.lst.same e, h.keep, h.new⟩
set_option maxHeartbeats 8000000 in
set_option maxRecDepth 100000 in
theorem newKS_any (OB M oc : Nat) (kd tx ky : Nat → Nat) (w : World) (h : OP w OB M kd tx ky) :
    Calls Ybaz.prog 8 #[.slice (some ⟨OB, 0, none⟩) M oc] w fun e w' => NewKS w w' kd ky M e ∧ Keep (fun _ => False) w w' := by
  have HO : Hid _ := h
  have hM := h.hM
  clear h
  have hmk := run_makeMap (P := Ybaz.prog) 74 w
  go_enter Ybaz.func8, Ybaz.ntmps8
  go_wp2
  have HK0 : Hid (K1 w ((w.alloc (.map #[] 0)).alloc (.cells #[.map (some w.heap.size), .slice none 0 0] 77)) kd ky 0 0 (fun _ => 0) none 0) := by
    refine ⟨?_, ⟨fun _ => none, ?_, fun j _ => by simp [Wrt]⟩, Vec.nil _ _ _ _, ⟨by omega, fun x hx => by omega, fun j hj => ?_, fun x _ hx => by omega⟩, ?_, fun g hg => by simp at hg⟩
    · have := heap_alloc_new (w.alloc (.map #[] 0)) (.cells #[.map (some w.heap.size), .slice none 0 0] 77)
      simpa using this
    · rw [← keyM_none]
      exact (MP.made w 9).keep (Keep.alloc (fun _ => False) _ _) id
    · obtain ⟨a, h, _⟩ := hj; omega
    · exact (Keep.alloc (fun _ => False) _ _).trans (Keep.alloc (fun _ => False) _ _) (fun _ q => q.elim)
  generalize ((w.alloc (.map #[] 0)).alloc (.cells #[.map (some w.heap.size), .slice none 0 0] 77)) = w1 at *
  go_loopg [15] M (fun gk s wr => ∃ (i n c : Nat) (srt : Nat → Nat) (a : Option Addr), i ≤ M ∧ s = .int .i64 (i : Int) ∧ gk = M - i ∧ Hid (K1 w wr kd ky i n srt a c))
  case atStart => exact ⟨0, 0, 0, _, none, Nat.zero_le _, rfl, rfl, HK0⟩
  case round =>
    clear HK0
    obtain ⟨i, n, c, srt, a, hi, rfl, rfl, HK⟩ := hrel
    by_cases hlt : i < M
    · have i1 : (i : Int) < (M : Int) := by omega
      have i2 : (i : Int).toNat = i := by omega
      have hop := HO.out.keep HK.out.keep id
      obtain ⟨e0, e1, e2, e3, e4, e5, e6⟩ := hop.cell i hlt
      have hk := HO.out.hk i hlt
      have kA := Keep.alloc (fun _ => False) wr (.cells #[.int .u8 (kd i : Int), .int .u64 (tx i : Int), .string (kstr (ky i)), .string ⟨#[]⟩, .bool false, .int .u64 0, .slice none 0 0] 34)
      obtain ⟨m, hm, hmw⟩ := HK.out.map
      have hL := (hm.keep kA.drew id).look_ok keyed9 Ybaz.underlying74 (zero3 _) (kkey (ky i))
      generalize (keyM m (klit (ky i))).getD (.int .i64 0) = v at hL
      have hok : (keyM m (klit (ky i))).isSome = true → ky i < 3 → Wrt kd ky i (ky i) := fun q hq => by
        rw [keyM_at m _ hq] at q
        exact (hmw _ hq).1 q
      have hok2 : ky i < 3 → Wrt kd ky i (ky i) → (keyM m (klit (ky i))).isSome = true := fun hq q => by
        rw [keyM_at m _ hq]
        exact (hmw _ hq).2 q
      generalize (keyM m (klit (ky i))).isSome = okb at hL hok hok2
      have c0 : (wr.alloc (.cells #[.int .u8 (kd i : Int), .int .u64 (tx i : Int), .string (kstr (ky i)), .string ⟨#[]⟩, .bool false, .int .u64 0, .slice none 0 0] 34)).cell? ⟨w.heap.size + 1, 0, none⟩ = some (.map (some w.heap.size)) := cell_of _ _ 0 _ _ (kA.at HK.out.blk id)
      have HK3 : Hid _ := HK.out.keepF kA.drew
      have HB3 : Hid _ := heap_alloc_new wr (.cells #[.int .u8 (kd i : Int), .int .u64 (tx i : Int), .string (kstr (ky i)), .string ⟨#[]⟩, .bool false, .int .u64 0, .slice none 0 0] 34)
      have HHK : Hid _ := hk
      have HOK : Hid _ := hok
      have HOK2 : Hid _ := hok2
      have hks := heap_lt HK.out.blk
      clear hop hm hmw kA hk hok hok2 HK
      go_upto_region 5 with fail
      go_region
      clear hL c0 e0 e1 e2 e3 e4 e5 e6
      have HB4 : Hid ((wr.alloc (.cells #[.int .u8 (kd i : Int), .int .u64 (tx i : Int), .string (kstr (ky i)), .string ⟨#[]⟩, .bool false, .int .u64 0, .slice none 0 0] 34)).drew.heap[wr.heap.size]? = some (.cells #[.int .u8 (kd i : Int), .int .u64 (tx i : Int), .string (kstr (ky i)), .string ⟨#[]⟩, .bool false, .int .u64 0, .slice none 0 0] 34)) := HB3
      clear HB3
      generalize (wr.alloc (.cells #[.int .u8 (kd i : Int), .int .u64 (tx i : Int), .string (kstr (ky i)), .string ⟨#[]⟩, .bool false, .int .u64 0, .slice none 0 0] 34)).drew = w3 at *
      generalize wr.heap.size = bO at *
      have e0 : w3.cell? ⟨bO, 0, none⟩ = some (.int .u8 (kd i : Int)) := cell_of _ _ 0 _ _ HB4.out
      have e2 : w3.cell? ⟨bO, 2, none⟩ = some (.string (kstr (ky i))) := cell_of _ _ 2 _ _ HB4.out
      by_cases hwk : kd i = 119
      · have kq : (kd i : Int) = 119 := by omega
        cases hb : okb with
        | true =>
          subst hb
          go_wp2
          go_roundg (M - (i + 1))
          case measure => omega
          case rel => exact ⟨i + 1, n, c, srt, a, by omega, by go_num, rfl, HK3.out.next (fun _ => HOK.out trivial (by have := HHK.out; omega))⟩
        | false =>
          subst hb
          have hky : ky i < 3 := by have := HHK.out; omega
          have hnw : ¬ Wrt kd ky i (ky i) := fun q => absurd (HOK2.out hky q) (by simp)
          obtain ⟨m, hm, hmw⟩ := HK3.out.map
          obtain ⟨w4, hr4, hm4, hk4, hs4⟩ := (hm.keep (Keep.refl (fun _ => False) w3).drew id).put (key := .string (kstr (ky i))) keyed9 Ybaz.underlying74 (by unfold maxLen; omega) (kkey (ky i)) (.int .i64 0)
          have c0 : w3.cell? ⟨w.heap.size + 1, 0, none⟩ = some (.map (some w.heap.size)) := cell_of _ _ 0 _ _ HK3.out.blk
          rw [keyM_put m _ hky] at hm4
          clear HOK HOK2
          have hm4' : ∀ j, j < 3 → ((if j = ky i then some (Value.int .i64 0) else m j).isSome = true ↔ Wrt kd ky (i + 1) j) := fun j hj => by
            by_cases q : j = ky i
            · subst q
              simp only [if_true, Option.isSome_some, true_iff]
              exact ⟨i, by omega, hwk, rfl⟩
            · simp only [q, if_false]
              exact (hmw j hj).trans (wrt_step_no (fun q2 => q q2.2.symm)).symm
          have n1 : ¬ w.heap.size + 1 = w.heap.size := by omega
          have hnew := HK3.out.new
          have hne4 : ∀ g, a = some ⟨g, 0, none⟩ → g ≠ w.heap.size := fun g hg => by
            obtain ⟨cur, hb⟩ := HK3.out.vec.block_ty hg
            exact hm.not_cells hb
          have v4 := (HK3.out.vec.keep (Keep.refl (fun _ => False) w3).drew (fun _ _ q => q)).keep hk4 hne4
          have b4 : w4.heap[w.heap.size + 1]? = some (.cells #[.map (some w.heap.size), .slice a n c] 77) := hk4.at (w := w3.drew) HK3.out.blk n1
          have k4 : Keep (fun _ => False) w w4 := HK3.out.keep.trans (Keep.trans ((Keep.refl (fun i => i = w.heap.size) w3).drew) hk4 (fun _ q => .inl q)) (fun _ q => .inr (by omega))
          have o4 : w4.cell? ⟨bO, 2, none⟩ = some (.string (kstr (ky i))) := cell_of _ _ 2 _ _ (hk4.at (w := w3.drew) HB4.out (by omega))
          have l4 := HK3.out.lst.more hwk hky hnw
          have HM4 : Hid _ := hm4
          have HM4' : Hid _ := hm4'
          have HV4 : Hid _ := v4
          have HB5 : Hid _ := b4
          have HK4 : Hid _ := k4
          have HL4 : Hid _ := l4
          have HN : Hid _ := hnew
          clear hm hmw hm4 hm4' hk4 hs4 hnew hne4 v4 b4 k4 l4 hnw HHK HB4 hky HK3
          go_upto_region 7 with fail
          go_region
          clear e0 e2 c0 hr4
          go_upto_region 8 with fail
          obtain ⟨g5, cap5, w5, hr5, hv5, hk5, hg5, hl5⟩ := run_push (w4.alloc (.cells #[.string (kstr (ky i))] 9)).drew 75 9 75 1 16 _ Ybaz.underlying75 inf9 rfl Nat.one_pos (by decide) a n c _ ((HV4.out.keep ((Keep.refl (fun _ => False) _).drew) (fun _ _ q => q)).alloc _) ⟨w4.heap.size, 0, none⟩ 1 (fun _ => .string (kstr (ky i))) (new1 w4.drew _ 9) (fun _ _ => rfl) (by have := HL4.out.n3; omega)
          have c1 : w4.cell? ⟨w.heap.size + 1, 1, none⟩ = some (.slice a n c) := cell_of _ _ 1 _ _ HB5.out
          have c1a : (w4.alloc (.cells #[.string (kstr (ky i))] 9)).cell? ⟨w.heap.size + 1, 1, none⟩ = some (.slice a n c) := cell_of _ _ 1 _ _ (heap_grow _ HB5.out)
          have hna : ¬ a = some ⟨w.heap.size + 1, 0, none⟩ := HV4.out.off HB5.out (by decide)
          have c1b : w5.cell? ⟨w.heap.size + 1, 1, none⟩ = some (.slice a n c) := cell_of _ _ 1 _ _ (hk5.at (heap_grow (w := w4.drew) _ HB5.out) hna)
          have z1b := free_of _ _ 1 _ _ (hk5.at (heap_grow (w := w4.drew) (.cells #[.string (kstr (ky i))] 9) HB5.out) hna)
          obtain ⟨t1, t2, t3, _, t5⟩ := field_push (wr := w4.drew) (i := 1) HB5.out hv5 hk5 hg5 hna
          have hmb : ∀ g, a = some ⟨g, 0, none⟩ → g ≠ w.heap.size := fun g hg => by
            obtain ⟨cur, hb⟩ := HV4.out.block_ty hg
            exact HM4.out.not_cells hb
          have HK6 : Hid (K1 w (w5.setCell ⟨w.heap.size + 1, 1, none⟩ (.slice (some ⟨g5, 0, none⟩) (n + 1) cap5)) kd ky (i + 1) (n + 1) (fun x => if x = n then ky i else srt x) (some ⟨g5, 0, none⟩) cap5) := by
            have q1 := (HM4.out.keepb (w' := w4.drew) rfl).keep t3 (fun q => by
              rcases q with q | q
              · omega
              · exact hmb _ q rfl)
            have q2 := t2.congr (g := fun x _ => .string (kstr (if x = n then ky i else srt x))) (by omega) (fun x c hx _ => by
              by_cases e : x = n
              · simp [push, e]
              · simp [push, e])
            have q3 := HK4.out.drew.trans t3 (fun b q => by
              rcases q with q | q
              · exact .inr (by omega)
              · exact .inr (HN.out b q))
            refine ⟨by simpa using t1, ⟨_, q1, HM4'.out⟩, q2, HL4.out, q3, fun g hg => ?_⟩
            simp only [Option.some.injEq, Addr.mk.injEq, and_true] at hg
            subst hg
            rcases t5 with q | q
            · exact HN.out _ q
            · exact Nat.le_trans HK4.out.size q
          clear t1 t2 t3 t5 hmb hv5 hk5 hg5 hl5
          as_aux_lemma =>
            go_region
            clear c1 c1a c1b z1b hr5 o4
            generalize w5.setCell ⟨w.heap.size + 1, 1, none⟩ (.slice (some ⟨g5, 0, none⟩) (n + 1) cap5) = w6 at *
            go_wp2
            go_roundg (M - (i + 1))
            case measure => omega
            case rel => exact ⟨i + 1, n + 1, cap5, _, _, by omega, by go_num, rfl, HK6⟩
      · have kq : ¬ (kd i : Int) = 119 := by omega
        go_wp2
        go_roundg (M - (i + 1))
        case measure => omega
        case rel => exact ⟨i + 1, n, c, srt, a, by omega, by go_num, rfl, HK3.out.next (fun q => absurd q hwk)⟩
    · obtain rfl : i = M := by omega
      have q1 : ¬ (i : Int) < (i : Int) := by omega
      have c1 : wr.cell? ⟨w.heap.size + 1, 1, none⟩ = some (.slice a n c) := cell_of _ _ 1 _ _ HK.out.blk
      have n3 := HK.out.lst.n3
      have n3' : (n : Int) ≤ 3 := by omega
      have HS := fun (_ : Unit) => sort_vec a n c (fun x => kstr (srt x)) wr (by omega) HK.out.vec
      go_upto_region 11 with (go_at_call 22; refine (HS ()).mono ?_; rintro e w2 ⟨rfl, HS2⟩)
      obtain ⟨σ, hσ, hrow, hk2⟩ := HS2
      have hoff := HK.out.vec.off HK.out.blk (by decide)
      obtain ⟨m, hm, hmw⟩ := HK.out.map
      have hmb : ∀ g, a = some ⟨g, 0, none⟩ → g ≠ w.heap.size := fun g hg => by
        obtain ⟨cur, hb⟩ := HK.out.vec.block_ty hg
        exact hm.not_cells hb
      have HK2 : Hid (K2 w w2 kd ky i 0 n (fun x => srt (σ x)) a c) := by
        refine ⟨hk2.at HK.out.blk hoff, ⟨m, hm.keep hk2 (fun q => hmb _ q rfl), hmw, fun y hy => by omega⟩, fun h0 => ?_, HK.out.lst.shuf hσ, HK.out.keep.trans hk2 (fun b q => .inr (HK.out.new b q)), HK.out.new⟩
        obtain ⟨g, e, hg, r⟩ := hrow h0
        exact ⟨g, e, Nat.lt_of_lt_of_le hg hk2.size, r, hmb g e⟩
      clear HS c1 hrow hk2 hoff hm hmw hmb hσ HK HO
      generalize (fun x => srt (σ x)) = srt2 at *
      have c1 : w2.cell? ⟨w.heap.size + 1, 1, none⟩ = some (.slice a n c) := cell_of _ _ 1 _ _ HK2.out.blk
      go_wp2
      go_loopg [64] n (fun gk s wr => ∃ x : Nat, x ≤ n ∧ s = .int .i64 (x : Int) ∧ gk = n - x ∧ Hid (K2 w wr kd ky i x n srt2 a c))
      case atStart => exact ⟨0, Nat.zero_le _, rfl, rfl, HK2⟩
      case round =>
        clear HK2 c1
        obtain ⟨x, hx, rfl, rfl, HK⟩ := hrel
        by_cases hlt : x < n
        · have x1 : (x : Int) < (n : Int) := by omega
          have x2 : (x : Int).toNat = x := by omega
          obtain ⟨g, rfl, hg, hr, hgm⟩ := HK.out.row (by omega)
          have er := hr.cell x hlt
          have c0 : wr.cell? ⟨w.heap.size + 1, 0, none⟩ = some (.map (some w.heap.size)) := cell_of _ _ 0 _ _ HK.out.blk
          obtain ⟨m, hm, hmw, hmy⟩ := HK.out.map
          have hlx := HK.out.lst.lt x hlt
          obtain ⟨w4, hr4, hm4, hk4, hs4⟩ := hm.put (key := .string (kstr (srt2 x))) keyed9 Ybaz.underlying74 (by unfold maxLen; omega) (kkey (srt2 x)) (.int .i64 (x : Int))
          rw [keyM_put m _ hlx.1] at hm4
          have HK5 : Hid (K2 w w4 kd ky i (x + 1) n srt2 (some ⟨g, 0, none⟩) c) := by
            refine ⟨hk4.at HK.out.blk (by omega), ⟨_, hm4, fun j hj => ?_, fun y hy => ?_⟩, fun _ => ⟨g, rfl, by omega, hr.keep (hk4.block g hg hgm), hgm⟩, HK.out.lst, HK.out.keep.trans hk4 (fun b q => .inr (by omega)), HK.out.new⟩
            · by_cases q : j = srt2 x
              · simp only [q, if_true, Option.isSome_some, true_iff]
                exact hlx.2
              · simp only [q, if_false]
                exact hmw j hj
            · by_cases q : y = x
              · simp [q]
              · have : ¬ srt2 y = srt2 x := fun e => q (HK.out.lst.inj y x (by omega) hlt e)
                simp only [this, if_false]
                exact hmy y (by omega)
          clear hm hmw hmy hlx hm4 hk4 hs4 hg hr hgm HK
          go_wp2
          go_roundg (n - (x + 1))
          case measure => omega
          case rel => exact ⟨x + 1, by omega, by go_num, rfl, HK5⟩
        · obtain rfl : x = n := by omega
          have q3 : ¬ (x : Int) < (x : Int) := by omega
          have HKS : Hid (NewKS w wr kd ky i (.returned (.pointer (some ⟨w.heap.size + 1, 0, none⟩)))) := by
            obtain ⟨num, hnum⟩ := HK.out.lst.num
            obtain ⟨m, hm, hmw, hmy⟩ := HK.out.map
            refine ⟨_, x, num, fun y => kstr (srt2 y), w.heap.size, a, c, _, rfl, ⟨HK.out.blk, ⟨m, hm, fun j hj hw => ?_, fun j hj hw => ?_⟩, HK.out.lst.n3, fun j _ hw => (hnum j hw).1, fun p q _ _ hp hq e => ?_, fun h0 => ?_⟩, by omega, Nat.le_refl _, HK.out.new⟩
            · have := hmy _ (hnum j hw).1
              rw [(hnum j hw).2] at this
              exact this
            · have := mt (hmw j hj).1 hw
              cases q : m j
              · rfl
              · rw [q] at this; simp at this
            · rw [← (hnum p hp).2, ← (hnum q hq).2, e]
            · obtain ⟨g, e, hg, hr, _⟩ := HK.out.row h0
              exact ⟨g, e, hg, hr⟩
          have HKw : Hid _ := HK.out.keep
          clear HK
          go_wp2
          go_ret
          exact ⟨HKS.out, HKw.out⟩
end Go.Proofs.YbulkdvbsGreat

/-
  The kinds' table, satisfiable, valueRoleOf, the law's model.
-/
import Derived.Test.YbulkdvcgDoorRows
import Derived.WalkKit
import Derived.WalkSpells
import Derived.WalkLawsBesides
import Derived.Deep.QuietTactic
import Derived.BigQuiet
namespace Go.Proofs.YbulkdvcgDoor
open Go.RowKit

def fm (k : Nat) : Int := if k = 1 ∨ k = 2 then 1 else if k = 5 ∨ k = 6 then 2 else if k = 7 ∨ k = 8 then 3 else 0
def wr (k : Nat) : Bool := decide (k = 2 ∨ k = 5 ∨ k = 6 ∨ k = 8)
/-- The table of the kinds lies in the first variable's block. -/
structure Tab (w : World) (lt : Nat → Int) (nm : Nat → ByteArray) : Prop where
  c0 : ∀ k, k < 9 → w.cell? ⟨0, k * 4, none⟩ = some (.int .u8 (lt k))
  c1 : ∀ k, k < 9 → w.cell? ⟨0, k * 4 + 1, none⟩ = some (.string (nm k))
  c2 : ∀ k, k < 9 → w.cell? ⟨0, k * 4 + 2, none⟩ = some (.int .u8 (fm k))
  c3 : ∀ k, k < 9 → w.cell? ⟨0, k * 4 + 3, none⟩ = some (.bool (wr k))

set_option maxHeartbeats 400000 in
theorem valid_any (k : Nat) (hk : k ≤ 255) (w : World) :
    Calls Ybad.prog 10 #[.int .u8 k] w fun e w' => e = .returned (.bool (decide (0 < k ∧ k < 9))) ∧ w' = w := by
  by_cases h0 : 0 < k
  · have h1 : (0 : Int) < (k : Int) := by omega
    go_enter Ybad.func10, Ybad.ntmps10
    go_wp2
    go_ret
    exact ⟨by simp [h0]; omega, rfl⟩
  · have h1 : k = 0 := by omega
    subst h1
    go_enter Ybad.func10, Ybad.ntmps10
    go_wp2
    go_ret
    exact ⟨rfl, rfl⟩

/-- What 'info' gives: the letter and the name are some. -/
def infoV (l : Int) (s : ByteArray) (k : Nat) : Value := .agg #[.int .u8 l, .string s, .int .u8 (fm k), .bool (wr k)]

set_option maxHeartbeats 1000000 in
theorem info_any (lt : Nat → Int) (nm : Nat → ByteArray) (k : Nat) (hk : k ≤ 255) (w : World) (ht : Tab w lt nm) :
    Calls Ybad.prog 8 #[.int .u8 k] w fun e w' => (∃ l s, e = .returned (infoV l s k)) ∧ Below w.heap.size w w' := by
  by_cases hv : 0 < k ∧ k < 9
  · have c0 := ht.c0 k hv.2
    have c1 := ht.c1 k hv.2
    have c2 := ht.c2 k hv.2
    have c3 := ht.c3 k hv.2
    have hb : (0 : Nat) < w.heap.size := World.block_lt_of_cell? w _ c0
    have hd : decide (0 < k ∧ k < 9) = true := decide_eq_true hv
    have k1 : (k : Int) < 9 := by omega
    have hval := valid_any k hk (w.alloc (.cells #[.int .u8 0, .string ByteArray.empty, .int .u8 0, .bool false] 35))
    rw [hd] at hval
    clear ht hv hd
    go_enter Ybad.func8, Ybad.ntmps8
    go_wp2_with (first | (go_at_call 10; refine hval.mono ?_; rintro e w' ⟨rfl, rfl⟩))
    refine bodyPost_ret (v := infoV (lt k) (nm k) k) (by simp [results, Ybad.results8, go_sem, infoV]) rfl ⟨⟨_, _, rfl⟩, ?_⟩
    exact (Below.refl _ _).alloc (Nat.le_refl _) _
  · have hd : decide (0 < k ∧ k < 9) = false := decide_eq_false hv
    have hf : fm k = 0 := by unfold fm; rw [if_neg (by omega), if_neg (by omega), if_neg (by omega)]
    have hr : wr k = false := by unfold wr; exact decide_eq_false (by omega)
    have hval := valid_any k hk (w.alloc (.cells #[.int .u8 0, .string ByteArray.empty, .int .u8 0, .bool false] 35))
    rw [hd] at hval
    clear ht hv hd
    go_enter Ybad.func8, Ybad.ntmps8
    go_wp2_with (first | (go_at_call 10; refine hval.mono ?_; rintro e w' ⟨rfl, rfl⟩))
    refine bodyPost_ret (v := infoV 0 ⟨#[]⟩ k) (by simp [results, Ybad.results8, go_sem, infoV, hf, hr]) rfl ⟨⟨_, _, rfl⟩, ?_⟩
    exact (Below.refl _ _).alloc (Nat.le_refl _) _

/-- The intervals of a slice: their cells. -/
structure Ivs (w : World) (a : Option Addr) (n : Nat) (b off : Nat) (S : Nat → ByteArray) (mn mx : Nat → Int) : Prop where
  ad : 0 < n → a = some ⟨b, off, none⟩
  c0 : ∀ j, j < n → w.cell? ⟨b, off + j * 3, none⟩ = some (.string (S j))
  c1 : ∀ j, j < n → w.cell? ⟨b, off + j * 3 + 1, none⟩ = some (.int .i64 (mn j))
  c2 : ∀ j, j < n → w.cell? ⟨b, off + j * 3 + 2, none⟩ = some (.int .i64 (mx j))
theorem Ivs.later {w w' : World} {a : Option Addr} {n b off : Nat} {S : Nat → ByteArray} {mn mx : Nat → Int} (h : Ivs w a n b off S mn mx) (hb : Below w.heap.size w w') : Ivs w' a n b off S mn mx :=
  ⟨h.ad, fun j hj => by rw [hb.cell (World.block_lt_of_cell? w _ (h.c0 j hj))]; exact h.c0 j hj, fun j hj => by rw [hb.cell (World.block_lt_of_cell? w _ (h.c1 j hj))]; exact h.c1 j hj, fun j hj => by rw [hb.cell (World.block_lt_of_cell? w _ (h.c2 j hj))]; exact h.c2 j hj⟩
theorem Tab.later {w w' : World} {lt : Nat → Int} {nm : Nat → ByteArray} (h : Tab w lt nm) (hb : Below w.heap.size w w') : Tab w' lt nm :=
  ⟨fun k hk => by rw [hb.cell (World.block_lt_of_cell? w _ (h.c0 k hk))]; exact h.c0 k hk, fun k hk => by rw [hb.cell (World.block_lt_of_cell? w _ (h.c1 k hk))]; exact h.c1 k hk, fun k hk => by rw [hb.cell (World.block_lt_of_cell? w _ (h.c2 k hk))]; exact h.c2 k hk, fun k hk => by rw [hb.cell (World.block_lt_of_cell? w _ (h.c3 k hk))]; exact h.c3 k hk⟩

/-- Each of the first n intervals holds a value. -/
def sat (mn mx : Nat → Int) (n : Nat) : Bool := decide (∀ j, j ∈ List.range n → mn j ≤ mx j)

set_option maxHeartbeats 1000000 in
theorem sat_any (a : Option Addr) (n c b off : Nat) (S : Nat → ByteArray) (mn mx : Nat → Int) (hn : n ≤ 1048576) (w : World) (h : Ivs w a n b off S mn mx) :
    Calls Ybad.prog 9 #[.slice a n c] w fun e w' => e = .returned (.bool (sat mn mx n)) ∧ Below w.heap.size w w' := by
  have hn2 : (n : Int) ≤ 1048576 := by omega
  go_enter Ybad.func9, Ybad.ntmps9
  go_wp2
  go_loopw [7] (fun i wy => ∃ k : Nat, k ≤ n ∧ i = .int .i64 k ∧ Below w.heap.size w wy ∧ w.heap.size ≤ wy.heap.size ∧ Hid (∀ j, j < k → mn j ≤ mx j)) (fun i _ => n - (intOf i).toNat)
  case atStart => exact ⟨0, Nat.zero_le _, rfl, Below.refl _ _, Nat.le_refl _, fun j hj => by omega⟩
  case round =>
    obtain ⟨k, hk, rfl, hb, hs, HA⟩ := hrel
    by_cases hlt : k < n
    · obtain rfl := h.ad (by omega)
      have h1 := h.later hb
      have c0 := h1.c0 k hlt
      have c1 := h1.c1 k hlt
      have c2 := h1.c2 k hlt
      have hblt : b < wr.heap.size := World.block_lt_of_cell? _ _ c0
      have k1 : (k : Int) < (n : Int) := by omega
      clear h1 h
      by_cases hm : mn k ≤ mx k
      · have hm' : ¬ mx k < mn k := by omega
        go_wp2
        go_roundw
        case rel => exact ⟨k + 1, by omega, by go_num, hb.alloc hs _, by simp; omega, fun j hj => by
          by_cases e : j = k
          · subst e; exact hm
          · exact HA.out j (by omega)⟩
        case measure => simp [intOf]; omega
      · have hm' : mx k < mn k := by omega
        have HF : Hid (sat mn mx n = false) := decide_eq_false fun hall => hm (hall k (by simpa using hlt))
        go_wp2
        go_ret
        exact ⟨by rw [HF.out]; rfl, hb.alloc hs _⟩
    · have e : n = k := by omega
      subst e
      have HF : Hid (sat mn mx n = true) := decide_eq_true fun j hj => HA.out j (by simpa using hj)
      go_wp2
      go_ret
      exact ⟨by rw [HF.out]; rfl, hb⟩

/-- The role and the flag. -/
def role (k : Nat) (st : Bool) : Int × Bool := if k = 5 ∨ k = 6 then (0, true) else if k = 7 ∧ st = true then (2, true) else if k = 8 ∧ st = true then (1, true) else (0, false)


set_option maxHeartbeats 1000000 in
theorem role_any (lt : Nat → Int) (nm : Nat → ByteArray) (k : Nat) (hk : k ≤ 255) (a : Option Addr) (n c b off : Nat) (S : Nat → ByteArray) (mn mx : Nat → Int) (hn : n ≤ 1048576) (w : World) (ht : Tab w lt nm) (h : Ivs w a n b off S mn mx) :
    Calls Ybad.prog 5 #[.int .u8 k, .slice a n c] w fun e w' => e = .returned (.tuple #[.int .u8 (role k (sat mn mx n)).1, .bool (role k (sat mn mx n)).2]) ∧ Below w.heap.size w w' := by
  have hi := info_any lt nm k hk w ht
  unfold infoV at hi
  clear ht
  by_cases h56 : k = 5 ∨ k = 6
  · have f1 : fm k = 2 := by unfold fm; rw [if_neg (by omega), if_pos h56]
    have HR : Hid (role k (sat mn mx n) = (0, true)) := by show role k _ = _; unfold role; rw [if_pos h56]
    rw [f1] at hi
    clear h56 f1 h
    go_enter Ybad.func5, Ybad.ntmps5
    go_wp2_with (first | (go_at_call 8; refine hi.mono ?_; rintro e w1 ⟨⟨l, s, rfl⟩, hb1⟩))
    go_ret2
    exact ⟨by rw [HR.out]; rfl, hb1.alloc hb1.size _⟩
  · by_cases h78 : k = 7 ∨ k = 8
    · have f1 : fm k = 3 := by unfold fm; rw [if_neg (by omega), if_neg h56, if_pos h78]
      rw [f1] at hi
      by_cases hs : sat mn mx n = true
      · by_cases h8 : k = 8
        · have r1 : wr k = true := by unfold wr; exact decide_eq_true (by omega)
          rw [r1] at hi
          have HR : Hid (role k (sat mn mx n) = (1, true)) := by show role k _ = _; unfold role; rw [if_neg h56, if_neg (by omega), if_pos ⟨h8, hs⟩]
          clear h56 f1 h78 h8 r1
          go_enter Ybad.func5, Ybad.ntmps5
          go_wp2_with (first
            | (go_at_call 8; refine hi.mono ?_; rintro e w1 ⟨⟨l, s, rfl⟩, hb1⟩; have hsz := hb1.size)
            | (go_at_call 9; refine (sat_any a n c b off S mn mx hn _ (h.later (hb1.alloc hb1.size _))).mono ?_; rw [hs]; rintro e w2 ⟨rfl, hb2⟩; have d3 : w2.cell? ⟨w1.heap.size, 3, none⟩ = some (.bool true) := (by rw [hb2.cell (p := ⟨w1.heap.size, 3, none⟩) (by simp)]; simp [go_sem])))
          go_ret2
          exact ⟨by rw [HR.out]; rfl, (hb1.alloc hb1.size _).trans (hb2.mono (by simp; omega))⟩
        · have r1 : wr k = false := by unfold wr; exact decide_eq_false (by omega)
          rw [r1] at hi
          have HR : Hid (role k (sat mn mx n) = (2, true)) := by show role k _ = _; unfold role; rw [if_neg h56, if_pos ⟨by omega, hs⟩]
          clear h56 f1 h78 h8 r1
          go_enter Ybad.func5, Ybad.ntmps5
          go_wp2_with (first
            | (go_at_call 8; refine hi.mono ?_; rintro e w1 ⟨⟨l, s, rfl⟩, hb1⟩; have hsz := hb1.size)
            | (go_at_call 9; refine (sat_any a n c b off S mn mx hn _ (h.later (hb1.alloc hb1.size _))).mono ?_; rw [hs]; rintro e w2 ⟨rfl, hb2⟩; have d3 : w2.cell? ⟨w1.heap.size, 3, none⟩ = some (.bool false) := (by rw [hb2.cell (p := ⟨w1.heap.size, 3, none⟩) (by simp)]; simp [go_sem])))
          go_ret2
          exact ⟨by rw [HR.out]; rfl, (hb1.alloc hb1.size _).trans (hb2.mono (by simp; omega))⟩
      · have hs' : sat mn mx n = false := by simpa using hs
        have HR : Hid (role k (sat mn mx n) = (0, false)) := by show role k _ = _; unfold role; rw [if_neg h56, if_neg (by simp [hs']), if_neg (by simp [hs'])]
        clear h56 f1 h78 hs
        go_enter Ybad.func5, Ybad.ntmps5
        go_wp2_with (first
          | (go_at_call 8; refine hi.mono ?_; rintro e w1 ⟨⟨l, s, rfl⟩, hb1⟩; have hsz := hb1.size)
          | (go_at_call 9; refine (sat_any a n c b off S mn mx hn _ (h.later (hb1.alloc hb1.size _))).mono ?_; rw [hs']; rintro e w2 ⟨rfl, hb2⟩))
        go_ret2
        exact ⟨by rw [HR.out]; rfl, (hb1.alloc hb1.size _).trans (hb2.mono (by simp; omega))⟩
    · have f1 : (fm k == 2) = false := by unfold fm; rw [if_neg h56, if_neg h78]; split <;> rfl
      have f2 : (fm k != 3) = true := by unfold fm; rw [if_neg h56, if_neg h78]; split <;> rfl
      have HR : Hid (role k (sat mn mx n) = (0, false)) := by show role k _ = _; unfold role; rw [if_neg h56, if_neg (by omega), if_neg (by omega)]
      generalize fm k = f at *
      clear h56 h78 h
      go_enter Ybad.func5, Ybad.ntmps5
      go_wp2_with (first | (go_at_call 8; refine hi.mono ?_; rintro e w1 ⟨⟨l, s, rfl⟩, hb1⟩))
      go_ret2
      exact ⟨by rw [HR.out]; rfl, hb1.alloc hb1.size _⟩

set_option maxHeartbeats 2000000 in
theorem model_any (k : Nat) (hk : k ≤ 255) (a : Option Addr) (n c b off : Nat) (S : Nat → ByteArray) (mn mx : Nat → Int) (hn : n ≤ 1048576) (w : World) (h : Ivs w a n b off S mn mx) :
    Calls Ybad.prog 6 #[.int .u8 k, .slice a n c] w fun e w' => e = .returned (.tuple #[.int .u8 (role k (sat mn mx n)).1, .bool (role k (sat mn mx n)).2]) ∧ ∃ q, w' = w.drewN q := by
  have hn2 : (n : Int) ≤ 1048576 := by omega
  go_enter Ybad.func6, Ybad.ntmps6
  go_wp2
  go_loopw [6, 7] (fun t i wy => ∃ j : Nat, j ≤ n ∧ i = .int .i64 j ∧ t = .bool (sat mn mx j) ∧ Hid (∃ q, wy = w.drewN q)) (fun _ i _ => n - (intOf i).toNat)
  case atStart => exact ⟨0, Nat.zero_le _, rfl, rfl, 0, rfl⟩
  case round =>
    obtain ⟨j, hj, rfl, rfl, hw⟩ := hrel
    by_cases hlt : j < n
    · obtain rfl := h.ad (by omega)
      have c1 : wr.cell? ⟨b, off + j * 3 + 1, none⟩ = some (.int .i64 (mn j)) := by obtain ⟨q, rfl⟩ := hw; simpa using h.c1 j hlt
      have c2 : wr.cell? ⟨b, off + j * 3 + 2, none⟩ = some (.int .i64 (mx j)) := by obtain ⟨q, rfl⟩ := hw; simpa using h.c2 j hlt
      have k0 : (0 : Int) ≤ (j : Int) := by omega
      have k1 : (j : Int) < (n : Int) := by omega
      clear h
      by_cases hm : mn j ≤ mx j
      · have hm' : ¬ mx j < mn j := by omega
        have HS : Hid (sat mn mx (j + 1) = sat mn mx j) := by
          show sat mn mx (j + 1) = sat mn mx j
          unfold sat
          simp only [List.mem_range]
          rw [Bool.eq_iff_iff]
          simp only [decide_eq_true_eq]
          exact ⟨fun hh i hi => hh i (by omega), fun hh i hi => by
            by_cases e : i = j
            · subst e; exact hm
            · exact hh i (by omega)⟩
        go_wp2
        go_quiet (fail)
        go_wp2
        go_roundw
        case rel => exact ⟨j + 1, by omega, by go_num, by rw [HS.out], by obtain ⟨q, rfl⟩ := hw; exact ⟨_, by rw [World.drewN_drewN]⟩⟩
        case measure => simp [intOf]; omega
      · have hm' : mx j < mn j := by omega
        have HS : Hid (sat mn mx (j + 1) = false) := decide_eq_false fun hall => hm (hall j (by simp))
        go_wp2
        go_quiet (fail)
        go_wp2
        go_roundw
        case rel => exact ⟨j + 1, by omega, by go_num, by rw [HS.out], by obtain ⟨q, rfl⟩ := hw; exact ⟨_, by rw [World.drewN_drewN]⟩⟩
        case measure => simp [intOf]; omega
    · have e : n = j := by omega
      subst e
      obtain ⟨st, hst⟩ : ∃ st, sat mn mx n = st := ⟨_, rfl⟩
      rw [hst]
      have HST : Hid (sat mn mx n = st) := hst
      clear h hn2 hst
      have HR : Hid (role k st = if k = 5 ∨ k = 6 then (0, true) else if k = 7 ∧ st = true then (2, true) else if k = 8 ∧ st = true then (1, true) else (0, false)) := rfl
      by_cases h5 : k = 5
      · subst h5; go_wp2; go_ret2; exact ⟨by rw [HST.out]; rfl, hw⟩
      by_cases h6 : k = 6
      · subst h6; go_wp2; go_ret2; exact ⟨by rw [HST.out]; rfl, hw⟩
      by_cases h7 : k = 7
      · subst h7
        cases st
        · go_wp2; go_ret2; exact ⟨by rw [HST.out]; rfl, hw⟩
        · go_wp2; go_ret2; exact ⟨by rw [HST.out]; rfl, hw⟩
      by_cases h8 : k = 8
      · subst h8
        cases st
        · go_wp2; go_ret2; exact ⟨by rw [HST.out]; rfl, hw⟩
        · go_wp2; go_ret2; exact ⟨by rw [HST.out]; rfl, hw⟩
      have HR2 : Hid (role k st = (0, false)) := by have := HR.out; rw [if_neg (by omega), if_neg (by omega), if_neg (by omega)] at this; exact this
      have e5 : ((k : Int) == 5) = false := by simp; omega
      have e6 : ((k : Int) == 6) = false := by simp; omega
      have e7 : ((k : Int) == 7) = false := by simp; omega
      have e8 : ((k : Int) == 8) = false := by simp; omega
      go_wp2
      go_ret2
      exact ⟨by rw [HST.out, HR2.out]; rfl, hw⟩

end Go.Proofs.YbulkdvcgDoor

/-
  Rows of transactions: slices.Clone and slices.Equal at []Txn, walked.
-/
import Derived.Test.YbulkdvcgEnds
import Derived.Test.YbulkdvcgMake
namespace Go.Proofs.Ybulkdvcg
open Go.RowKit

/-- The transactions of a row: id, state, end. -/
structure Tx where
  id : Nat → Int
  st : Nat → Int
  en : Nat → Int
def Tx.v (X : Tx) (i c : Nat) : Value := if c = 0 then .int .i64 (X.id i) else if c = 1 then .int .u8 (X.st i) else .int .i64 (X.en i)
/-- The first m transactions lie in block B. -/
def TRow (w : World) (B m : Nat) (X : Tx) : Prop := ∀ i c, i < m → c < 3 → w.cell? ⟨B, i * 3 + c, none⟩ = some (X.v i c)
theorem TRow.c0 {w : World} {B m : Nat} {X : Tx} (h : TRow w B m X) (i : Nat) (hi : i < m) : w.cell? ⟨B, i * 3, none⟩ = some (.int .i64 (X.id i)) := h i 0 hi (by omega)
theorem TRow.c1 {w : World} {B m : Nat} {X : Tx} (h : TRow w B m X) (i : Nat) (hi : i < m) : w.cell? ⟨B, i * 3 + 1, none⟩ = some (.int .u8 (X.st i)) := h i 1 hi (by omega)
theorem TRow.c2 {w : World} {B m : Nat} {X : Tx} (h : TRow w B m X) (i : Nat) (hi : i < m) : w.cell? ⟨B, i * 3 + 2, none⟩ = some (.int .i64 (X.en i)) := h i 2 hi (by omega)
theorem TRow.keep {w w' : World} {B m : Nat} {X : Tx} (h : TRow w B m X) (hb : w'.heap[B]? = w.heap[B]?) : TRow w' B m X := fun i c hi hc => by
  rw [World.cell?_of_block (a := ⟨B, i * 3 + c, none⟩) hb]; exact h i c hi hc
def rowT (m : Nat) (X : Tx) : List Value := (List.range (m * 3)).map fun j => X.v (j / 3) (j % 3)
theorem rowT_len (m : Nat) (X : Tx) : (rowT m X).length = m * 3 := by simp [rowT]
theorem rowT_at (m : Nat) (X : Tx) (j : Nat) (hj : j < m * 3) : (rowT m X)[j]? = some (X.v (j / 3) (j % 3)) := by simp [rowT, hj]

theorem inf29 : ∃ i, Yba.prog.info? 29 = some i ∧ i.zero = some (.agg #[.int .i64 0, .int .u8 0, .int .i64 0]) ∧ i.size = 3 ∧ i.bytes = 24 := inf_of (by kernel_rfl)

set_option maxHeartbeats 1000000 in
/-- slices.Clone of a []Txn that is not nil. -/
theorem cloneT_any (B m cm : Nat) (X : Tx) (w : World) (hm : m ≤ 1048576) (hB : B < w.heap.size) (hrow : TRow w B m X) :
    Calls Yba.prog 5 #[.slice (some ⟨B, 0, none⟩) m cm] w fun e w' => ∃ cb C cc, e = .returned (.slice cb m cc) ∧ (0 < m → cb = some ⟨C, 0, none⟩ ∧ w.heap.size ≤ C ∧ C < w'.heap.size ∧ TRow w' C m X) ∧ Below w.heap.size w w' := by
  obtain ⟨i3, hi, hz, hs, hb⟩ := inf29
  have hown : (w.alloc (Obj.cells #[] 29)).ownsRow w.heap.size 29 3 (.slice (some ⟨w.heap.size, 0, none⟩) 0 0) 0 [] := World.ownsRow_made w #[] 0 (Nat.le_refl _) (by unfold maxLen; omega) rfl
  have hnil := fun W => Lib.run_eql_slice_nil (P := Yba.prog) W 24 29 (some ⟨B, 0, none⟩) m cm 0 0 Yba.underlying24
  go_enter Yba.func5, Yba.ntmps5
  go_wp2_with (at_builtin; (refine wpList_append_own_at (w.alloc (Obj.cells #[] 29)) rfl _ _ 24 rfl w.heap.size 29 i3 _ 3 24 Yba.underlying24 hi hz hs hb rfl (by omega) (.slice (some ⟨w.heap.size, 0, none⟩) 0 0) 0 [] rfl hown ⟨B, 0, none⟩ m cm (rowT m X) rfl ?hl ?news ?one ?h63 ?bytes ?base ?_))
  case hl => rw [rowT_len]
  case news =>
    intro j u hu
    have hj : j < m * 3 := by have := (List.getElem?_eq_some_iff.1 hu).1; rwa [rowT_len] at this
    rw [rowT_at m X j hj] at hu
    have h1 := hrow (j / 3) (j % 3) (by omega) (by omega)
    rw [show j / 3 * 3 + j % 3 = j by omega] at h1
    rw [add_none, Nat.zero_add, World.cell?_alloc_lt _ _ _ (by exact hB), h1, hu]
  case one =>
    intro u hu
    simp only [rowT, List.mem_map] at hu
    obtain ⟨j, _, rfl⟩ := hu
    unfold Tx.v
    split
    · rfl
    · split <;> rfl
  case h63 => unfold maxLen; omega
  case bytes => omega
  case base => simp
  intro v' w' ho hg _ _
  go_wp2
  go_ret
  have hbel : Below w.heap.size w w' := ((Below.refl _ _).alloc (Nat.le_refl _) _).grown hg (by simp) (fun k hk => by simp [Value.ownBlock] at hk; omega)
  have ho2 : w'.ownsRow w.heap.size 29 3 v' m (rowT m X) := by simpa using ho
  by_cases h0 : 0 < m
  · obtain ⟨C, cc, hv, hlt⟩ := ho2.form h0
    subst hv
    obtain ⟨l1, l2⟩ := ho2.lt C rfl
    refine ⟨some ⟨C, 0, none⟩, C, cc, rfl, fun _ => ⟨rfl, l1, l2, fun i c hic hc => ?_⟩, hbel⟩
    have hj : i * 3 + c < m * 3 := by omega
    rw [ho2.cellAt (i * 3 + c) hj, rowT_at m X _ hj, show (i * 3 + c) / 3 = i by omega, show (i * 3 + c) % 3 = c by omega]
  · rcases ho2.2 with ⟨hv, _⟩ | ⟨g, cap, cur, hv, _⟩
    · have hm0 : m = 0 := by omega
      subst hm0
      exact ⟨none, 0, 0, by rw [hv]; rfl, fun h => by omega, hbel⟩
    · exact ⟨some ⟨g, 0, none⟩, g, cap, by rw [hv]; rfl, fun h => by omega, hbel⟩

set_option maxHeartbeats 1000000 in
/-- slices.Clone of a nil []Txn. -/
theorem cloneT_nil (w : World) : Calls Yba.prog 5 #[.slice none 0 0] w fun e w' => e = .returned (.slice none 0 0) ∧ w' = w := by
  have hnil := fun W => Lib.run_eql_slice_nil (P := Yba.prog) W 24 29 none 0 0 0 0 Yba.underlying24
  go_enter Yba.func5, Yba.ntmps5
  go_wp2
  go_ret
  exact ⟨rfl, rfl⟩

set_option maxHeartbeats 1000000 in
/-- slices.Equal over two []Txn that hold the same. -/
theorem equalT (a1 a2 : Option Addr) (n c1 c2 x1 x2 : Nat) (X : Tx) (w : World) (hn : n ≤ 1048576) (h1 : 0 < n → a1 = some ⟨x1, 0, none⟩ ∧ TRow w x1 n X) (h2 : 0 < n → a2 = some ⟨x2, 0, none⟩ ∧ TRow w x2 n X) :
    Calls Yba.prog 8 #[.slice a1 n c1, .slice a2 n c2] w fun e w' => e = .returned (.bool true) ∧ ∃ q, w' = w.drewN q := by
  have hn2 : (n : Int) ≤ 1048576 := by omega
  go_enter Yba.func8, Yba.ntmps8
  go_wp2
  go_loopw [13] (fun i wr => ∃ k : Nat, k ≤ n ∧ i = .int .i64 k ∧ Hid (∃ q, wr = w.drewN q)) (fun i _ => n - (intOf i).toNat)
  case atStart => exact ⟨0, Nat.zero_le _, rfl, 0, rfl⟩
  case round =>
    obtain ⟨k, hk, rfl, hw⟩ := hrel
    by_cases hlt : k < n
    · obtain ⟨rfl, r1⟩ := h1 (by omega)
      obtain ⟨rfl, r2⟩ := h2 (by omega)
      have e1 : wr.cell? ⟨x1, k * 3, none⟩ = some (.int .i64 (X.id k)) := by obtain ⟨q, rfl⟩ := hw; simpa using r1.c0 k hlt
      have e2 : wr.cell? ⟨x1, k * 3 + 1, none⟩ = some (.int .u8 (X.st k)) := by obtain ⟨q, rfl⟩ := hw; simpa using r1.c1 k hlt
      have e3 : wr.cell? ⟨x1, k * 3 + 2, none⟩ = some (.int .i64 (X.en k)) := by obtain ⟨q, rfl⟩ := hw; simpa using r1.c2 k hlt
      have g1 : wr.cell? ⟨x2, k * 3, none⟩ = some (.int .i64 (X.id k)) := by obtain ⟨q, rfl⟩ := hw; simpa using r2.c0 k hlt
      have g2 : wr.cell? ⟨x2, k * 3 + 1, none⟩ = some (.int .u8 (X.st k)) := by obtain ⟨q, rfl⟩ := hw; simpa using r2.c1 k hlt
      have g3 : wr.cell? ⟨x2, k * 3 + 2, none⟩ = some (.int .i64 (X.en k)) := by obtain ⟨q, rfl⟩ := hw; simpa using r2.c2 k hlt
      have k0 : (0 : Int) ≤ (k : Int) := by omega
      have k1 : (k : Int) < (n : Int) := by omega
      clear h1 h2 r1 r2
      go_wp2
      go_quiet (fail)
      go_wp2
      go_roundw
      case rel => exact ⟨k + 1, by omega, by go_num, by obtain ⟨q, rfl⟩ := hw; exact ⟨_, by rw [World.drewN_drewN]⟩⟩
      case measure => simp [intOf]; omega
    · have e : k = n := by omega
      subst e
      go_wp2
      go_ret
      exact ⟨rfl, hw⟩

end Go.Proofs.Ybulkdvcg

/-
  slices.Clone at []int, slices.Equal at []int and []bool, walked.
-/
import Derived.Test.YbulkdvcgDrop
import Derived.Deep.AppendLies
import Derived.Maps.AppendAt
namespace Go.Proofs.Ybulkdvcg
open Go.RowKit

/-- The numbers of a row. -/
def rowI (m : Nat) (ws : Nat → Nat) : List Value := (List.range m).map fun i => .int .i64 (ws i : Int)
theorem rowI_len (m : Nat) (ws : Nat → Nat) : (rowI m ws).length = m := by simp [rowI]
theorem rowI_at (m : Nat) (ws : Nat → Nat) (i : Nat) (hi : i < m) : (rowI m ws)[i]? = some (.int .i64 (ws i : Int)) := by simp [rowI, hi]
theorem rowI_succ (m : Nat) (ws : Nat → Nat) : rowI (m + 1) ws = rowI m ws ++ [.int .i64 (ws m : Int)] := by simp [rowI, List.range_succ]

set_option maxHeartbeats 1000000 in
/-- slices.Clone of a []int that is not nil. -/
theorem clone_any (wb m cm : Nat) (ws : Nat → Nat) (w : World) (hm : m ≤ 65536) (hrow : ∀ i, i < m → w.cell? ⟨wb, i, none⟩ = some (.int .i64 (ws i : Int))) :
    Calls Yba.prog 9 #[.slice (some ⟨wb, 0, none⟩) m cm] w fun e w' => ∃ v, e = .returned v ∧ w'.ownsRow w.heap.size 3 1 v m (rowI m ws) ∧ Below w.heap.size w w' := by
  obtain ⟨i3, hi, hz, hs, hb⟩ := inf3
  have hown : (w.alloc (Obj.cells #[] 3)).ownsRow w.heap.size 3 1 (.slice (some ⟨w.heap.size, 0, none⟩) 0 0) 0 [] := World.ownsRow_made w #[] 0 (Nat.le_refl _) (by unfold maxLen; omega) rfl
  have hnil := fun W => Lib.run_eql_slice_nil (P := Yba.prog) W 35 3 (some ⟨wb, 0, none⟩) m cm 0 0 Yba.underlying35
  go_enter Yba.func9, Yba.ntmps9
  go_wp2_with (at_builtin; (refine wpList_append_own_at (w.alloc (Obj.cells #[] 3)) rfl _ _ 35 rfl w.heap.size 3 i3 _ 1 8 Yba.underlying35 hi hz hs hb rfl (by omega) (.slice (some ⟨w.heap.size, 0, none⟩) 0 0) 0 [] rfl hown ⟨wb, 0, none⟩ m cm (rowI m ws) rfl ?hl ?news ?one ?h63 ?bytes ?base ?_))
  case hl => rw [rowI_len, Nat.mul_one]
  case news =>
    intro j u hu
    have hj : j < m := by have := (List.getElem?_eq_some_iff.1 hu).1; rwa [rowI_len] at this
    rw [rowI_at m ws j hj] at hu
    have e : (⟨wb, 0, none⟩ : Addr).add j = ⟨wb, j, none⟩ := by unfold Addr.add; split <;> simp_all
    rw [e, World.cell?_alloc_lt _ _ _ (World.block_lt_of_cell? w _ (hrow j hj)), hrow j hj, hu]
  case one =>
    intro u hu
    simp only [rowI, List.mem_map] at hu
    obtain ⟨_, _, rfl⟩ := hu
    rfl
  case h63 => unfold maxLen; omega
  case bytes => omega
  case base => simp
  intro v' w' ho hg _ _
  go_wp2
  go_ret
  refine ⟨v', rfl, by simpa using ho, ?_⟩
  exact ((Below.refl _ _).alloc (Nat.le_refl _) _).grown hg (by simp) (fun k hk => by simp [Value.ownBlock] at hk; omega)

set_option maxHeartbeats 1000000 in
/-- slices.Equal over two []int that hold the same. -/
theorem equal_int (a1 a2 : Option Addr) (n c1 c2 : Nat) (f : Nat → Int) (w : World) (hn : n ≤ 1000000) (h1 : 0 < n → ∃ b, a1 = some ⟨b, 0, none⟩ ∧ ∀ i, i < n → w.cell? ⟨b, i, none⟩ = some (.int .i64 (f i))) (h2 : 0 < n → ∃ b, a2 = some ⟨b, 0, none⟩ ∧ ∀ i, i < n → w.cell? ⟨b, i, none⟩ = some (.int .i64 (f i))) :
    Calls Yba.prog 12 #[.slice a1 n c1, .slice a2 n c2] w fun e w' => e = .returned (.bool true) ∧ ∃ q, w' = w.drewN q := by
  have hn2 : (n : Int) ≤ 1000000 := by omega
  go_enter Yba.func12, Yba.ntmps12
  go_wp2
  go_loopw [13] (fun i wr => ∃ k : Nat, k ≤ n ∧ i = .int .i64 k ∧ Hid (∃ q, wr = w.drewN q)) (fun i _ => n - (intOf i).toNat)
  case atStart => exact ⟨0, Nat.zero_le _, rfl, 0, rfl⟩
  case round =>
    obtain ⟨k, hk, rfl, hw⟩ := hrel
    by_cases hlt : k < n
    · obtain ⟨x1, rfl, r1⟩ := h1 (by omega)
      obtain ⟨x2, rfl, r2⟩ := h2 (by omega)
      have e1 : wr.cell? ⟨x1, k, none⟩ = some (.int .i64 (f k)) := by obtain ⟨q, rfl⟩ := hw; simpa using r1 k hlt
      have e2 : wr.cell? ⟨x2, k, none⟩ = some (.int .i64 (f k)) := by obtain ⟨q, rfl⟩ := hw; simpa using r2 k hlt
      have k0 : (0 : Int) ≤ (k : Int) := by omega
      have k1 : (k : Int) < (n : Int) := by omega
      clear h1 h2 r1 r2
      go_wp2
      go_quiet (fail)
      go_wp2
      go_roundw
      case rel => exact ⟨k + 1, by omega, by go_num, by obtain ⟨q, rfl⟩ := hw; exact ⟨_, by rw [World.drewN_drewN]⟩⟩
      case measure => simp [intOf]; omega
    · have e : k = n := by omega
      subst e
      go_wp2
      go_ret
      exact ⟨rfl, hw⟩

set_option maxHeartbeats 1000000 in
/-- slices.Equal over two []bool that hold the same. -/
theorem equal_bool (b1 : Nat) (a2 : Option Addr) (n c1 c2 b2 o2 : Nat) (f : Nat → Bool) (w : World) (hn : n ≤ 2097152) (h1 : ∀ i, i < n → w.cell? ⟨b1, i, none⟩ = some (.bool (f i))) (ha : 0 < n → a2 = some ⟨b2, o2, none⟩) (h2 : ∀ i, i < n → w.cell? ⟨b2, o2 + i, none⟩ = some (.bool (f i))) :
    Calls Yba.prog 13 #[.slice (some ⟨b1, 0, none⟩) n c1, .slice a2 n c2] w fun e w' => e = .returned (.bool true) ∧ ∃ q, w' = w.drewN q := by
  have hn2 : (n : Int) ≤ 2097152 := by omega
  go_enter Yba.func13, Yba.ntmps13
  go_wp2
  go_loopw [13] (fun i wr => ∃ k : Nat, k ≤ n ∧ i = .int .i64 k ∧ Hid (∃ q, wr = w.drewN q)) (fun i _ => n - (intOf i).toNat)
  case atStart => exact ⟨0, Nat.zero_le _, rfl, 0, rfl⟩
  case round =>
    obtain ⟨k, hk, rfl, hw⟩ := hrel
    by_cases hlt : k < n
    · obtain rfl := ha (by omega)
      have e1 : wr.cell? ⟨b1, k, none⟩ = some (.bool (f k)) := by obtain ⟨q, rfl⟩ := hw; simpa using h1 k hlt
      have e2 : wr.cell? ⟨b2, o2 + k, none⟩ = some (.bool (f k)) := by obtain ⟨q, rfl⟩ := hw; simpa using h2 k hlt
      have k0 : (0 : Int) ≤ (k : Int) := by omega
      have k1 : (k : Int) < (n : Int) := by omega
      clear h1 h2 ha
      go_wp2
      go_quiet (fail)
      go_wp2
      go_roundw
      case rel => exact ⟨k + 1, by omega, by go_num, by obtain ⟨q, rfl⟩ := hw; exact ⟨_, by rw [World.drewN_drewN]⟩⟩
      case measure => simp [intOf]; omega
    · have e : k = n := by omega
      subst e
      go_wp2
      go_ret
      exact ⟨rfl, hw⟩

end Go.Proofs.Ybulkdvcg

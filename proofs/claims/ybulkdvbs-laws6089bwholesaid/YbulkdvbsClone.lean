import Derived.Test.YbulkdvbsGr2
import Derived.Maps.AppendAt
namespace Go.Proofs.Ybulkdvbs
open Go.RowKit

/-- The numbers of a row. -/
def rowI (m : Nat) (ws : Nat → Nat) : List Value := (List.range m).map fun i => .int .i64 (ws i : Int)
theorem rowI_len (m : Nat) (ws : Nat → Nat) : (rowI m ws).length = m := by simp [rowI]
theorem rowI_at (m : Nat) (ws : Nat → Nat) (i : Nat) (hi : i < m) : (rowI m ws)[i]? = some (.int .i64 (ws i : Int)) := by simp [rowI, hi]

set_option maxHeartbeats 1000000 in
/-- slices.Clone of a []int that is not nil. -/
theorem clone_any (wb m cm : Nat) (ws : Nat → Nat) (w : World) (hm : m ≤ 65536) (hrow : ∀ i, i < m → w.cell? ⟨wb, i, none⟩ = some (.int .i64 (ws i : Int))) :
    Calls Yba.prog 4 #[.slice (some ⟨wb, 0, none⟩) m cm] w fun e w' => ∃ v, e = .returned v ∧ w'.ownsRow w.heap.size 3 1 v m (rowI m ws) ∧ Below w.heap.size w w' := by
  obtain ⟨i3, hi, hz, hs, hb⟩ := inf3
  have hown : (w.alloc (Obj.cells #[] 3)).ownsRow w.heap.size 3 1 (.slice (some ⟨w.heap.size, 0, none⟩) 0 0) 0 [] := World.ownsRow_made w #[] 0 (Nat.le_refl _) (by unfold maxLen; omega) rfl
  have hnil := fun W => Lib.run_eql_slice_nil (P := Yba.prog) W 23 3 (some ⟨wb, 0, none⟩) m cm 0 0 Yba.underlying23
  go_enter Yba.func4, Yba.ntmps4
  go_wp2_with (at_builtin; (refine wpList_append_own_at (w.alloc (Obj.cells #[] 3)) rfl _ _ 23 rfl w.heap.size 3 i3 _ 1 8 Yba.underlying23 hi hz hs hb rfl (by omega) (.slice (some ⟨w.heap.size, 0, none⟩) 0 0) 0 [] rfl hown ⟨wb, 0, none⟩ m cm (rowI m ws) rfl ?hl ?news ?one ?h63 ?bytes ?base ?_))
  case hl => rw [rowI_len, Nat.mul_one]
  case news =>
    intro j u hu
    have hj : j < m := by have := (List.getElem?_eq_some_iff.1 hu).1; rwa [rowI_len] at this
    rw [rowI_at m ws j hj] at hu
    have e : (⟨wb, 0, none⟩ : Addr).add j = ⟨wb, j, none⟩ := by unfold Addr.add; split <;> simp_all
    rw [e, World.cell?_alloc_lt _ _ _ (World.block_lt_of_cell? w _ (hrow j hj)), hrow j hj, hu]
  case one =>
    intro u hu
    simp only [rowI, List.mem_map] at hu
    obtain ⟨_, _, rfl⟩ := hu
    rfl
  case h63 => unfold maxLen; omega
  case bytes => omega
  case base => simp
  intro v' w' ho hg _ _
  go_wp2
  go_ret
  refine ⟨v', rfl, by simpa using ho, ?_⟩
  exact ((Below.refl _ _).alloc (Nat.le_refl _) _).grown hg (by simp) (fun k hk => by simp [Value.ownBlock] at hk; omega)

end Go.Proofs.Ybulkdvbs

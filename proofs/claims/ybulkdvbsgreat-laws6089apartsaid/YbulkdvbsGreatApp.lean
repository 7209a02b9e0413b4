/-
  'append' as a run.
-/
import Derived.Test.YbulkdvbsGreatVec
namespace Go.Proofs.YbulkdvbsGreat
open Go.RowKit

/-- 'append(v, ..)', shut. -/
def opApp (t ty : TypeId) (s x : Value) : Sem Next := do pure (.value (← Builtin.append_ #[t, t] ty #[s, x]))
theorem exec_app (ρ : Operand → Value) (dst : Option Tmp) (t : TypeId) (s x : Operand) (ty : TypeId) (pos : String) (after : Array Edge) (guard : Option (Nat × Bool)) :
    execOp ρ { dst, op := .call { callee := .builtin .append, args := #[s, x], argTypes := #[t, t] }, type := ty, pos, after, guard } = opApp t ty (ρ s) (ρ x) := by
  rw [BigFrame.execOp_builtin, BigFrame.builtin_append]; simp only [opApp, List.map_toArray, List.map_cons, List.map_nil]
/-- One element more, as a run. -/
theorem run_push (w : World) (t e ty : TypeId) (k bytes : Nat) (z : Value) (ht : Ybaz.prog.underlying t = some (.slice e)) (hinf : ∃ i, Ybaz.prog.info? e = some i ∧ i.zero = some z ∧ i.size = k ∧ i.bytes = bytes) (hzs : z.cells.size = k) (hk : 0 < k) (hby : bytes ≤ 1024)
    (a : Option Addr) (n c : Nat) (f : Nat → Nat → Value) (hv : Vec w e k a n c f) (ad : Addr) (c' : Nat) (y : Nat → Value) (hnews : ∀ j, j < k → w.cell? (ad.add j) = some (y j)) (h1 : ∀ j, j < k → (y j).oneCell' = true) (hn : n ≤ 100000000) :
    ∃ g cap w', (opApp t ty (.slice a n c) (.slice (some ad) 1 c')).run Ybaz.prog w = .ok (.value (.slice (some ⟨g, 0, none⟩) (n + 1) cap)) w' ∧ Vec w' e k (some ⟨g, 0, none⟩) (n + 1) cap (push n f y) ∧ Keep (fun b => a = some ⟨b, 0, none⟩) w w' ∧ (a = some ⟨g, 0, none⟩ ∨ g = w.heap.size) ∧ g < w'.heap.size := by
  obtain ⟨i, hi, hz, hsize, hb⟩ := hinf
  obtain ⟨g, cap, w', hr, h2, h3, h4, h5⟩ := run_append_lies (P := Ybaz.prog) w t ty 0 e i z k bytes ht hi hz hsize hb hzs hk (.slice a n c) n _ hv.own ad 1 c' ((List.range k).map y) (by simp) (fun j u hu => by
      have hj : j < k := by have := (List.getElem?_eq_some_iff.1 hu).1; simpa using this
      rw [hnews j hj]; simpa [hj] using hu) (fun u hu => by
      simp only [List.mem_map] at hu
      obtain ⟨j, hj, rfl⟩ := hu
      exact h1 j (by simpa using hj)) (by omega) (by unfold maxLen; omega) (by
      have : (n + 1) * bytes ≤ 100000001 * 1024 := Nat.mul_le_mul (by omega) hby
      omega) (Nat.zero_le _) w.heap.size rfl
  refine ⟨g, cap, w', ?_, ⟨by rw [rowK_push n k f y hk]; exact h2⟩, ((grown_keep h3).wide fun b ⟨o, s, e⟩ => hv.plain e), ?_, h5⟩
  · unfold opApp
    rw [Sem.run_bind, hr]
    simp
  · rcases h4 with h4 | h4
    · left
      cases a with
      | none => simp [Value.ownBlock] at h4
      | some q => simp [Value.ownBlock] at h4; exact hv.plain (by subst h4; rfl)
    · exact .inr h4

end Go.Proofs.YbulkdvbsGreat

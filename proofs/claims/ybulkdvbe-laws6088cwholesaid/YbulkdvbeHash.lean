import Derived.Test.YbulkdvbeOps
namespace Go.Proofs.Ybulkdvbe
open Go.RowKit

/-- The hash of a claim. -/
def hashA (b p : Int) : Array Value := if b = 0 then z32 else z32.setIfInBounds (p % 32).toNat (.int .u8 b)
theorem hashA_size (b p : Int) : (hashA b p).size = 32 := by unfold hashA; split <;> simp [z32]
theorem hashA_one (b p : Int) : Ones (hashA b p) := by
  refine Array.all_eq_true_iff_forall_mem.2 fun v hv => ?_
  unfold hashA at hv
  split at hv
  · simp [z32] at hv; subst hv; rfl
  · rcases Array.mem_or_eq_of_mem_setIfInBounds hv with h | h
    · simp [z32] at h; subst h; rfl
    · subst h; rfl
theorem hashA_zero (p : Int) : hashA 0 p = z32 := by simp [hashA]
theorem hashA_some (b p : Int) (hb : (b != 0) = true) : hashA b p = z32.setIfInBounds (p % 32).toNat (.int .u8 b) := by
  have : b ≠ 0 := by simpa using hb
  simp [hashA, this]
theorem hash_results (w : World) (X Y : Obj) (C : Array Value) (t : TypeId) (tmps : Array Value) (hC : C.size = 32) (ht : tmps[2]?.getD undef = .pointer (some ⟨w.heap.size + 1, 0, none⟩)) :
    (results Yba.f4 tmps).run Yba.prog (((w.alloc X).alloc (.cells C t)).alloc Y) = .ok (.agg C) (((w.alloc X).alloc (.cells C t)).alloc Y) := by
  have h := run_loadVar_mid (P := Yba.prog) (((w.alloc X).alloc (.cells C t)).alloc Y) (w.heap.size + 1) 0 25 C.toList _ (fun j v hv => by
    rw [Nat.zero_add, World.cell?_alloc_lt _ _ _ (by simp)]
    have := World.cell?_alloc_new (w := w.alloc X) C t j
    rw [World.size_alloc] at this
    rw [this]; simpa using hv) Yba.underlying25 rfl (by rw [Array.length_toList, hC]; exact Yba.info25)
  simp only [Array.toArray_toList] at h
  unfold results
  simp only [Yba.results4]
  simp [ht, asAddr, h]

attribute [local go_sem ↓] exec_load25 exec_store25 exec_store37 exec_alloc25
attribute [local go_sem] run_alloc25 run_load25_new run_store25_prev z32_size

set_option maxHeartbeats 400000 in
theorem hash_zero (p r : Int) (w : World) :
    Calls Yba.prog 4 #[.agg #[.int .u8 0, .int .u8 p, .int .u32 r]] w fun e w' => e = .returned (.agg (hashA 0 p)) ∧ Below w.heap.size w w' := by
  have h1 : Ones z32 := by have := hashA_one 0 p; rwa [hashA_zero] at this
  go_enter Yba.func4, Yba.ntmps4
  go_wp2
  refine bodyPost_ret (v := .agg z32) (hash_results w _ _ _ _ _ z32_size rfl) rfl ⟨by rw [hashA_zero], ?_⟩
  exact (((Below.refl _ _).alloc (Nat.le_refl _) _).alloc (by simp) _).alloc (by simp; omega) _

set_option maxHeartbeats 400000 in
theorem hash_some (b p r : Int) (w : World) (hb : (b != 0) = true) (hp : 0 ≤ p) (hp2 : p ≤ 255) :
    Calls Yba.prog 4 #[.agg #[.int .u8 b, .int .u8 p, .int .u32 r]] w fun e w' => e = .returned (.agg (hashA b p)) ∧ Below w.heap.size w w' := by
  have hz : z32[(p % 32).toNat]? = some (.int .u8 0) := by
    have : (p % 32).toNat < 32 := by omega
    simp [z32, this]
  have h1 : Ones (z32.setIfInBounds (p % 32).toNat (.int .u8 b)) := by have := hashA_one b p; rwa [hashA_some b p hb] at this
  go_enter Yba.func4, Yba.ntmps4
  go_wp2
  refine bodyPost_ret (v := .agg (hashA b p)) ?_ rfl ⟨rfl, ?_⟩
  · rw [hashA_some b p hb]
    exact hash_results w _ _ _ _ _ (by simp [z32]) rfl
  · exact (((Below.refl _ _).alloc (Nat.le_refl _) _).alloc (by simp) _).alloc (by simp; omega) _

theorem hash_any (b p r : Int) (w : World) (hp : 0 ≤ p) (hp2 : p ≤ 255) :
    Calls Yba.prog 4 #[.agg #[.int .u8 b, .int .u8 p, .int .u32 r]] w fun e w' => e = .returned (.agg (hashA b p)) ∧ Below w.heap.size w w' := by
  by_cases hb : b = 0
  · subst hb; exact hash_zero p r w
  · exact hash_some b p r w (by simpa using hb) hp hp2

end Go.Proofs.Ybulkdvbe

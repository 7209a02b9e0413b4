/-
  slices.Clone at []int32; how many nodes.
-/
import Derived.Test.YbulkdvbsGreatWriters
import Derived.Maps.AppendAt
namespace Go.Proofs.YbulkdvbsGreat
open Go.RowKit

def rowV (n : Nat) (f : Nat → Value) : List Value := (List.range n).map f
theorem rowV_len (n : Nat) (f : Nat → Value) : (rowV n f).length = n := by simp [rowV]
theorem rowV_at (n : Nat) (f : Nat → Value) (i : Nat) (hi : i < n) : (rowV n f)[i]? = some (f i) := by simp [rowV, hi]

set_option maxHeartbeats 1000000 in
/-- slices.Clone of a []int32 that is not nil: a row of its own. -/
theorem clone32 (wb m cm : Nat) (f : Nat → Int) (w : World) (hm : m ≤ 65536) (hwb : wb < w.heap.size) (hrow : ∀ i, i < m → w.cell? ⟨wb, i, none⟩ = some (.int .i32 (f i))) :
    Calls Ybaz.prog 118 #[.slice (some ⟨wb, 0, none⟩) m cm] w fun e w' => ∃ a c, e = .returned (.slice a m c) ∧ Vec w' 21 1 a m c (fun i _ => .int .i32 (f i)) ∧ (∀ b, a = some ⟨b, 0, none⟩ → w.heap.size ≤ b) ∧ Keep (fun _ => False) w w' := by
  obtain ⟨i3, hi, hz, hs, hb⟩ := inf21
  have hown : (w.alloc (Obj.cells #[] 21)).ownsRow w.heap.size 21 1 (.slice (some ⟨w.heap.size, 0, none⟩) 0 0) 0 [] := World.ownsRow_made w #[] 0 (Nat.le_refl _) (by unfold maxLen; omega) rfl
  have hnil := fun W => Lib.run_eql_slice_nil (P := Ybaz.prog) W 95 21 (some ⟨wb, 0, none⟩) m cm 0 0 Ybaz.underlying95
  go_enter Ybaz.func118, Ybaz.ntmps118
  go_wp2_with (at_builtin; (refine wpList_append_own_at (w.alloc (Obj.cells #[] 21)) rfl _ _ 95 rfl w.heap.size 21 i3 _ 1 4 Ybaz.underlying95 hi hz hs hb rfl (by omega) (.slice (some ⟨w.heap.size, 0, none⟩) 0 0) 0 [] rfl hown ⟨wb, 0, none⟩ m cm (rowV m (fun i => .int .i32 (f i))) rfl ?hl ?news ?one ?h63 ?bytes ?base ?_))
  case hl => rw [rowV_len, Nat.mul_one]
  case news =>
    intro j u hu
    have hj : j < m := by have := (List.getElem?_eq_some_iff.1 hu).1; rwa [rowV_len] at this
    rw [rowV_at m _ j hj] at hu
    rw [add_none, Nat.zero_add, World.cell?_alloc_lt _ _ _ (by exact hwb), hrow j hj, hu]
  case one =>
    intro u hu
    simp only [rowV, List.mem_map] at hu
    obtain ⟨_, _, rfl⟩ := hu
    rfl
  case h63 => unfold maxLen; omega
  case bytes => omega
  case base => simp
  intro v' w' ho hg _ _
  go_wp2
  go_ret
  have hbel : Below w.heap.size w w' := ((Below.refl _ _).alloc (Nat.le_refl _) _).grown hg (by simp) (fun k hk => by simp [Value.ownBlock] at hk; omega)
  have ho2 : w'.ownsRow w.heap.size 21 1 v' m (rowV m (fun i => .int .i32 (f i))) := by simpa using ho
  have hrk : rowK m 1 (fun i _ => .int .i32 (f i)) = rowV m (fun i => .int .i32 (f i)) := by
    unfold rowK rowV; simp
  rcases ho2.2 with ⟨hv, hm0⟩ | ⟨g, cap, cur, hv, hbase, hrest⟩
  · subst hm0
    exact ⟨none, 0, by rw [hv]; rfl, Vec.nil _ _ _ _, nofun, keep_bel hbel⟩
  · refine ⟨some ⟨g, 0, none⟩, cap, by rw [hv]; rfl, ⟨by rw [rowK_len], .inr ⟨g, cap, cur, rfl, Nat.zero_le _, ?_⟩⟩, fun b hb => ?_, keep_bel hbel⟩
    · rw [hrk]; exact hrest
    · injection hb with hb; injection hb with hb; omega

set_option maxHeartbeats 1000000 in
theorem nodes_any (G n : Nat) (lc : Nat) (la : Option Addr) (w : World) (h : w.cell? ⟨G, 1, none⟩ = some (.slice la n lc)) : Calls Ybaz.prog 127 #[.pointer (some ⟨G, 0, none⟩)] w fun e w' => e = .returned (.int .i64 (n : Int)) ∧ w = w' := by
  go_enter Ybaz.func127, Ybaz.ntmps127
  go_wp2
  go_ret
  exact ⟨rfl, rfl⟩

/-- How many of the first k have u for their source. -/
def cnt (src : Nat → Int) (u : Nat) : Nat → Nat
  | 0 => 0
  | k + 1 => cnt src u k + if src k = (u : Int) then 1 else 0
/-- Where u's edges begin. -/
def pre (src : Nat → Int) (E : Nat) : Nat → Nat
  | 0 => 0
  | u + 1 => pre src E u + cnt src u E
theorem cnt_mono (src : Nat → Int) (u : Nat) : ∀ k E, k ≤ E → cnt src u k ≤ cnt src u E
  | k, 0, h => by have : k = 0 := by omega
                  subst this; exact Nat.le_refl _
  | k, E + 1, h => by
    by_cases e : k = E + 1
    · subst e; exact Nat.le_refl _
    · have := cnt_mono src u k E (by omega)
      show _ ≤ cnt src u E + _
      omega
theorem cnt_lt (src : Nat → Int) (u k E : Nat) (hk : k < E) (h : src k = (u : Int)) : cnt src u k < cnt src u E := by
  have h1 : cnt src u k + (if src k = (u : Int) then 1 else 0) ≤ cnt src u E := cnt_mono src u (k + 1) E hk
  rw [if_pos h] at h1; omega
theorem pre_mono (src : Nat → Int) (E : Nat) : ∀ a b, a ≤ b → pre src E a ≤ pre src E b
  | a, 0, h => by have : a = 0 := by omega
                  subst this; exact Nat.le_refl _
  | a, b + 1, h => by
    by_cases e : a = b + 1
    · subst e; exact Nat.le_refl _
    · have := pre_mono src E a b (by omega)
      show _ ≤ pre src E b + cnt src b E
      omega
theorem pre_step (src : Nat → Int) (E : Nat) : ∀ n, pre src (E + 1) n = pre src E n + if 0 ≤ src E ∧ src E < (n : Int) then 1 else 0
  | 0 => by
    have : ¬ (0 ≤ src E ∧ src E < ((0 : Nat) : Int)) := by omega
    simp only [pre, if_neg this]
  | n + 1 => by
    show pre src (E + 1) n + (cnt src n E + if src E = (n : Int) then 1 else 0) = pre src E n + cnt src n E + _
    rw [pre_step src E n]
    by_cases h1 : src E = (n : Int)
    · rw [if_pos h1, if_neg (by omega), if_pos (by omega)]; omega
    · by_cases h2 : 0 ≤ src E ∧ src E < (n : Int)
      · rw [if_neg h1, if_pos h2, if_pos (by omega)]; omega
      · rw [if_neg h1, if_neg h2, if_neg (by omega)]; omega
theorem pre_le (src : Nat → Int) (n : Nat) : ∀ E, pre src E n ≤ E
  | 0 => by
    have : ∀ n, pre src 0 n = 0 := fun n => by induction n with
      | zero => rfl
      | succ n ih => show pre src 0 n + 0 = 0; omega
    rw [this]; exact Nat.le_refl _
  | E + 1 => by
    rw [pre_step]
    have := pre_le src n E
    split <;> omega
end Go.Proofs.YbulkdvbsGreat

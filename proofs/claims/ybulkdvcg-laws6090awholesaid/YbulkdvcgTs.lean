/-
  Rows of transactions: a made row, a store of one.
-/
import Derived.Test.YbulkdvcgScan
namespace Go.Proofs.Ybulkdvcg
open Go.RowKit

/-- The first k of a made row are filled in. -/
def tv (X : Tx) (k i c : Nat) : Value := if i < k then X.v i c else if c = 1 then .int .u8 0 else .int .i64 0
structure TMade (w : World) (T n k : Nat) (X : Tx) : Prop where
  cell : ∀ i c, i < n → c < 3 → w.cell? ⟨T, i * 3 + c, none⟩ = some (tv X k i c)
  free : ∀ i, w.frozen? ⟨T, i, none⟩ = false
theorem TMade.row {w : World} {T n : Nat} {X : Tx} (h : TMade w T n n X) : TRow w T n X := fun i c hi hc => by
  rw [h.cell i c hi hc]; simp [tv, hi]
theorem TMade.step {w : World} {T n k : Nat} {X : Tx} (h : TMade w T n k X) (hk : k < n) : TMade (((w.setCell ⟨T, k * 3, none⟩ (.int .i64 (X.id k))).setCell ⟨T, k * 3 + 1, none⟩ (.int .u8 (X.st k))).setCell ⟨T, k * 3 + 2, none⟩ (.int .i64 (X.en k))) T n (k + 1) X := by
  have h0 := h.cell k 0 hk (by omega)
  have h1 := h.cell k 1 hk (by omega)
  have h2 := h.cell k 2 hk (by omega)
  rw [Nat.add_zero] at h0
  refine ⟨fun i c hi hc => ?_, fun i => by rw [World.frozen?_setCell, World.frozen?_setCell, World.frozen?_setCell]; exact h.free i⟩
  have e1 : ((w.setCell ⟨T, k * 3, none⟩ (.int .i64 (X.id k))).cell? ⟨T, k * 3 + 1, none⟩).isSome = true := by rw [cell_set _ _ _ _ _ (by rw [h0]; rfl)]; split <;> simp [h1]
  have e2 : (((w.setCell ⟨T, k * 3, none⟩ (.int .i64 (X.id k))).setCell ⟨T, k * 3 + 1, none⟩ (.int .u8 (X.st k))).cell? ⟨T, k * 3 + 2, none⟩).isSome = true := by rw [cell_set _ _ _ _ _ e1, cell_set _ _ _ _ _ (by rw [h0]; rfl)]; (repeat' split) <;> simp [h2]
  rw [cell_set _ _ _ _ _ e2, cell_set _ _ _ _ _ e1, cell_set _ _ _ _ _ (by rw [h0]; rfl), h.cell i c hi hc]
  by_cases hik : i = k
  · subst hik
    have hv : tv X (i + 1) i c = X.v i c := by simp [tv]
    rw [hv]
    match c, hc with
    | 0, _ => rw [if_neg (by omega), if_neg (by omega), if_pos (by omega)]; rfl
    | 1, _ => rw [if_neg (by omega), if_pos (by omega)]; rfl
    | 2, _ => rw [if_pos (by omega)]; rfl
  · rw [if_neg (by omega), if_neg (by omega), if_neg (by omega)]
    by_cases hl : i < k
    · simp [tv, hl, show i < k + 1 by omega]
    · simp [tv, hl, show ¬ i < k + 1 by omega]
theorem tmade_of (w : World) (T n : Nat) (X : Tx) (h : w.heap[T]? = some (.cells (mc z29 3 n) 29)) : TMade w T n 0 X := by
  refine ⟨fun i c hi hc => ?_, fun i => free_of w T i _ _ h⟩
  rw [cell_of w T _ _ _ h, mc_at z29 3 n i c rfl hi hc]
  simp only [tv, Nat.not_lt_zero, if_false]
  match c, hc with
  | 0, _ => rfl
  | 1, _ => rfl
  | 2, _ => rfl
theorem inf119 : ∃ i, Yba.prog.info? 119 = some i ∧ i.zero = some (.agg #[.int .i64 0, .int .i32 0, .int .i32 0]) ∧ i.size = 3 ∧ i.bytes = 16 := inf_of (by kernel_rfl)
def z119 : Value := .agg #[.int .i64 0, .int .i32 0, .int .i32 0]

/-- What the law has built of its transactions: nil, or a row of its own. -/
def Ts (w : World) (a : Option Addr) (m c T : Nat) (X : Tx) : Prop := (a = none ∧ m = 0 ∧ c = 0) ∨ (a = some ⟨T, 0, none⟩ ∧ T < w.heap.size ∧ TRow w T m X)
theorem Ts.keep {w w' : World} {a : Option Addr} {m c T : Nat} {X : Tx} {F : Nat → Prop} (h : Ts w a m c T X) (k : Keep F w w') (hF : ¬ F T) : Ts w' a m c T X := by
  rcases h with h | ⟨h1, h2, h3⟩
  · exact .inl h
  · exact .inr ⟨h1, Nat.lt_of_lt_of_le h2 k.size, h3.keep (k.block T h2 hF)⟩
theorem Ts.clone {w : World} {a : Option Addr} {m c T : Nat} {X : Tx} (hm : m ≤ 1048576) (h : Ts w a m c T X) :
    Calls Yba.prog 5 #[.slice a m c] w fun e w' => ∃ cb D cc, e = .returned (.slice cb m cc) ∧ (0 < m → cb = some ⟨D, 0, none⟩ ∧ D < w'.heap.size ∧ TRow w' D m X) ∧ Keep (fun _ => False) w w' := by
  rcases h with ⟨rfl, rfl, rfl⟩ | ⟨rfl, h2, h3⟩
  · exact (cloneT_nil w).mono fun e w' ⟨h1, h2⟩ => ⟨none, 0, 0, h1, fun h => by omega, by rw [h2]; exact Keep.refl _ _⟩
  · exact (cloneT_any T m c X w hm h2 h3).mono fun e w' ⟨cb, C, cc, h1, h2, h3⟩ => ⟨cb, C, cc, h1, fun h => ⟨(h2 h).1, (h2 h).2.2.1, (h2 h).2.2.2⟩, keep_bel h3⟩
theorem Ts.row {w : World} {a : Option Addr} {m c T : Nat} {X : Tx} (h : Ts w a m c T X) (hm : 0 < m) : a = some ⟨T, 0, none⟩ ∧ TRow w T m X := by
  rcases h with ⟨rfl, rfl, rfl⟩ | ⟨rfl, h2, h3⟩
  · omega
  · exact ⟨rfl, h3⟩

end Go.Proofs.Ybulkdvcg

import Derived.Test.YbulkdvbeHash
import Derived.ChangeKeysEq
namespace Go.Proofs.Ybulkdvbe
open Go.RowKit

/-- '==', '!=' on [32]byte, shut. -/
def opNeq (x y : Operand) (u v : Value) : Sem Next := do pure (.value (← (do eqGuard .neq 25 x y u v; binOp .neq 25 u v)))
/-- 'Hash{}', shut. -/
def opZero : Sem Next := do pure (.value (← Instr.build 25 #[]))

section
variable (ρ : Operand → Value) (dst : Option Tmp) (x y : Operand) (ty : TypeId) (pos : String) (after : Array Edge) (guard : Option (Nat × Bool)) (t2 : TypeId)
theorem exec_neq25 : execOp ρ { dst, op := .binOp .neq 25 x y t2, type := ty, pos, after, guard } = opNeq x y (ρ x) (ρ y) := rfl
theorem exec_zero25 : execOp ρ { dst, op := .build 25 #[], type := ty, pos, after, guard } = opZero := by simp [execOp, opZero]
end

theorem run_zero25 (w : World) : opZero.run Yba.prog w = .ok (.value (.agg z32)) w := by kernel_rfl

theorem Yba.cells5 : Yba.prog.cellsOf 5 = 1 := by kernel_rfl
theorem Yba.eqg25 : Yba.prog.eqGuardType Yba.prog.depth 25 = false := by kernel_rfl

theorem run_part5 (w : World) (xs : Array Value) (i : Nat) (v : Value) (h : xs[i]? = some v) : (part 5 xs i).run Yba.prog w = .ok v w := by
  simp [part, isAgg, Sem.run_bind, run_underlying Yba.underlying5, h]

theorem run_eqItems5 (d : Nat) (xs ys : Array Value) (f g : Nat → Int) (w : World) : ∀ (is : List Nat), (∀ i ∈ is, xs[i]? = some (.int .u8 (f i))) → (∀ i ∈ is, ys[i]? = some (.int .u8 (g i))) →
    (Op.eqItems (d + 1) 5 1 xs ys is).run Yba.prog w = .ok (decide (∀ i ∈ is, f i = g i)) w
  | [], _, _ => by simp [Op.eqItems]
  | i :: is, hx, hy => by
    have ih := run_eqItems5 d xs ys f g w is (fun j hj => hx j (by simp [hj])) (fun j hj => hy j (by simp [hj]))
    simp only [Op.eqItems, Nat.mul_one, Sem.run_bind, run_part5 w xs i _ (hx i (by simp)), run_part5 w ys i _ (hy i (by simp)), Result.andThen_ok, run_equalIn_int w d 5 .u8 _ _ _ Yba.underlying5]
    by_cases e : f i = g i
    · have : (f i == g i) = true := by simpa using e
      simp only [this, Bool.not_true, Bool.false_eq_true, if_false, ih]
      simp [e]
    · have : (f i == g i) = false := by simpa using e
      simp only [this, Bool.not_false, if_true]
      simp [e]

theorem run_neq25 (w : World) (x y : Operand) (xs ys : Array Value) (f g : Nat → Int) (hx : ∀ i, i < 32 → xs[i]? = some (.int .u8 (f i))) (hy : ∀ i, i < 32 → ys[i]? = some (.int .u8 (g i))) :
    (opNeq x y (.agg xs) (.agg ys)).run Yba.prog w = .ok (.value (.bool (!decide (∀ i ∈ List.range 32, f i = g i)))) w := by
  have h0 : (Op.equal 25 (.agg xs) (.agg ys)).run Yba.prog w = .ok (decide (∀ i ∈ List.range 32, f i = g i)) w := by
    have h1 : Op.equal 25 (.agg xs) (.agg ys) = Op.equalIn (9998 + 1 + 1) 25 (.agg xs) (.agg ys) := rfl
    rw [h1, run_equalIn_array w (9998 + 1) xs ys Yba.underlying25 rfl, Yba.cells5, run_eqItems5 9998 xs ys f g w (List.range 32) (fun i hi => hx i (by simpa using hi)) (fun i hi => hy i (by simpa using hi))]
  unfold opNeq
  simp only [Sem.run_bind, run_eqGuard_agg w .neq 25 x y xs ys Yba.eqg25, Result.andThen_ok]
  simp only [binOp, Sem.run_bind, h0, Result.andThen_ok, Sem.run_pure]

/-- The byte at a place of a claim's hash. -/
def hashN (b p : Int) (i : Nat) : Int := if b ≠ 0 ∧ i = (p % 32).toNat then b else 0
theorem hashA_at (b p : Int) (i : Nat) (hi : i < 32) : (hashA b p)[i]? = some (.int .u8 (hashN b p i)) := by
  unfold hashA hashN
  by_cases hb : b = 0
  · simp [hb, z32, hi]
  · by_cases e : i = (p % 32).toNat
    · subst e; simp [hb, z32, hi]
    · simp only [hb, if_false, e, and_false]
      rw [Array.getElem?_setIfInBounds_ne (by omega)]
      simp [z32, hi]
theorem z32_at (i : Nat) (hi : i < 32) : z32[i]? = some (.int .u8 0) := by simp [z32, hi]

/-- A claim's hash is zero only where its byte is. -/
theorem neq_zero (w : World) (x y : Operand) (b p : Int) :
    (opNeq x y (.agg (hashA b p)) (.agg z32)).run Yba.prog w = .ok (.value (.bool (b != 0))) w := by
  rw [run_neq25 w x y _ _ (hashN b p) (fun _ => 0) (hashA_at b p) z32_at]
  have : (!decide (∀ i ∈ List.range 32, hashN b p i = 0)) = (b != 0) := by
    by_cases hb : b = 0
    · subst hb; simp [hashN]
    · have h1 : (b != 0) = true := by simpa using hb
      rw [h1]
      simp only [Bool.not_eq_true', decide_eq_false_iff_not]
      intro h
      have := h (p % 32).toNat (by rw [List.mem_range]; omega)
      simp [hashN, hb] at this
  rw [this]
theorem neq_same (w : World) (x y : Operand) (b p : Int) :
    (opNeq x y (.agg (hashA b p)) (.agg (hashA b p))).run Yba.prog w = .ok (.value (.bool false)) w := by
  rw [run_neq25 w x y _ _ (hashN b p) (hashN b p) (hashA_at b p) (hashA_at b p)]
  simp

end Go.Proofs.Ybulkdvbe

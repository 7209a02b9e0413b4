/-
  A Message as a row of 43 cells: the build, the make, the store, kept shut.
-/
import Derived.Test.YbulkdvbeHigh
namespace Go.Proofs.Ybulkdvbe
open Go.RowKit

/-- 'Message{BlockHash: h, PreparedRound: r, From: i}', shut. -/
def opMsg (h r i : Value) : Sem Next := do pure (.value (← Instr.build 37 #[(3, h), (8, r), (4, i)]))
/-- 'make([]Message, n)', shut. -/
def opMake (l c : Value) : Sem Next := do pure (.value (← Instr.makeSlice 23 l c))
section
variable (ρ : Operand → Value) (dst : Option Tmp) (x y z : Operand) (ty : TypeId) (pos : String) (after : Array Edge) (guard : Option (Nat × Bool))
theorem exec_msg : execOp ρ { dst, op := .build 37 #[(3, x), (8, y), (4, z)], type := ty, pos, after, guard } = opMsg (ρ x) (ρ y) (ρ z) := by simp [execOp, opMsg]
theorem exec_make : execOp ρ { dst, op := .makeSlice 23 x y, type := ty, pos, after, guard } = opMake (ρ x) (ρ y) := rfl
end

/-- A message's 43 cells. -/
def msgA (h : Array Value) (r : Int) (i : Nat) : Array Value :=
  #[.int .u8 0, .int .u64 0, .int .u32 0] ++ h ++ #[.int .i64 i, .int .i64 0, .pointer none, .slice none 0 0, .int .u32 r, .pointer none, .slice none 0 0, .slice none 0 0]
theorem msgA_size (h : Array Value) (r : Int) (i : Nat) (hs : h.size = 32) : (msgA h r i).size = 43 := by simp [msgA, hs]
theorem msgA_one (h : Array Value) (r : Int) (i : Nat) (hs : Ones h) : Ones (msgA h r i) := by
  unfold Ones msgA at *
  rw [Array.all_append, Array.all_append, hs]
  simp [Value.oneCell']

theorem list32 {α : Type} (l : List α) (h : l.length = 32) : ∃ a0 a1 a2 a3 a4 a5 a6 a7 a8 a9 a10 a11 a12 a13 a14 a15 a16 a17 a18 a19 a20 a21 a22 a23 a24 a25 a26 a27 a28 a29 a30 a31 : α,
    l = [a0, a1, a2, a3, a4, a5, a6, a7, a8, a9, a10, a11, a12, a13, a14, a15, a16, a17, a18, a19, a20, a21, a22, a23, a24, a25, a26, a27, a28, a29, a30, a31] := by
  have e : l = (List.finRange 32).map fun i => l[i.val]'(by omega) := by
    apply List.ext_getElem
    · simp [h]
    · intro i h1 h2; simp
  exact ⟨_, _, _, _, _, _, _, _, _, _, _, _, _, _, _, _, _, _, _, _, _, _, _, _, _, _, _, _, _, _, _, _, e⟩

theorem run_msg (w : World) (h : Array Value) (r : Int) (i : Nat) (hs : h.size = 32) :
    (opMsg (.agg h) (.int .u32 r) (.int .i64 i)).run Yba.prog w = .ok (.value (.agg (msgA h r i))) w := by
  obtain ⟨l⟩ := h
  obtain ⟨a0, a1, a2, a3, a4, a5, a6, a7, a8, a9, a10, a11, a12, a13, a14, a15, a16, a17, a18, a19, a20, a21, a22, a23, a24, a25, a26, a27, a28, a29, a30, a31, rfl⟩ := list32 l (by simpa using hs)
  kernel_rfl

/-- The cells of 'make([]Message, n)'. -/
def made (n : Nat) : Array Value := madeCells (msgA z32 0 0) (n * 43)
theorem made_size (n : Nat) : (made n).size = n * 43 := size_madeCells _ _

theorem Yba.the37 : (Yba.prog.info? 37).map (fun i => (i.size, i.bytes)) = some (43, 168) := by kernel_rfl
theorem Yba.zero37 : (Yba.prog.info? 37).bind (·.zero) = some (.agg (msgA z32 0 0)) := by kernel_rfl

theorem run_makeMsgs (w : World) (n : Nat) (hn : n ≤ 1048576) :
    (opMake (.int .i64 n) (.int .i64 n)).run Yba.prog w = .ok (.value (.slice (some ⟨w.heap.size, 0, none⟩) n n)) (w.alloc (.cells (made n) 37)) := by
  have h1 := Yba.the37
  have h2 := Yba.zero37
  cases hi : Yba.prog.info? 37 with
  | none => rw [hi] at h1; simp at h1
  | some i =>
    rw [hi] at h1 h2
    simp only [Option.map_some, Option.some.injEq, Prod.mk.injEq] at h1
    simp only [Option.bind_some] at h2
    have h := run_make (P := Yba.prog) w 23 37 i _ Yba.underlying23 hi h2 .i64 .i64 n n (by omega) (Int.le_refl _) (by rw [h1.2]; omega) (by omega)
    unfold opMake
    rw [Sem.run_bind, h, h1.1]
    simp [Value.cells, made]

end Go.Proofs.Ybulkdvbe

/-
  The frame of the row 'LawS6090AWhole' (after the guide's skeleton), its hole filled.
-/
import Derived.Test.YbulkdvcgWhole
import Derived.Test.YbulkdvcgRows
import Derived.WalkKit
import Derived.ProofKit
import Derived.OpenShut
import Derived.ShutString
import Derived.ChangeOld
import Derived.Below
import Derived.Deep.Slices
namespace Go.Proofs.Ybulkdvcg
open Go.RowKit
set_option maxRecDepth 100000 in
set_option maxHeartbeats 1000000 in
/-- Too many transactions: nothing is done. -/
theorem law3_big (a0 : Option Addr) (m c0 : Nat) (ni ns now sa ta sb tb : Int) (w : World) (h : ¬ m ≤ 1048576) :
    Calls Yba.prog 3 #[.slice a0 m c0, .int .u16 ni, .int .u16 ns, .int .i64 now, .int .i32 sa, .int .i32 ta, .int .i32 sb, .int .i32 tb] w fun e w' => e = .returned (.bool true) ∧ Below w.heap.size w w' := by
  have m1 : (1048576 : Int) < (m : Int) := by omega
  go_enter Yba.func3, Yba.ntmps3
  go_wp2
  go_ret
  exact ⟨rfl, Below.refl _ _⟩
end Go.Proofs.Ybulkdvcg
namespace Go.Proofs.Ybulkdvcg.lawS6090AWhole
open Go.ChangeShapes Go.WideShapes Go.ChangeAt Go.RowKit
open Go.ChangeMaps (open_string shut_string)
set_option linter.unusedVariables false

theorem own : ownKnob Yba.prog.godebug = none := by kernel_rfl
theorem laidOut : laidOutB Yba.prog = true := by kernel_rfl

/-- What the walk is told of the transactions that came in. -/
def IsTxns (w : World) (a : Option Addr) (len cap : Nat) : Prop :=
  (a = none → len = 0 ∧ cap = 0) ∧ ∃ (b o : Nat) (X : Tx), (0 < len → a = some ⟨b, o, none⟩) ∧ (∀ i c, i < len → c < 3 → w.cell? ⟨b, o + i * 3 + c, none⟩ = some (X.v i c)) ∧ ∀ i, 0 ≤ X.st i ∧ X.st i ≤ 255

section
variable {H : Type} {enc : TypeId × Value → H} {W : World}
theorem len3 {α : Type} : ∀ (l : List α), l.length = 3 → ∃ a b c, l = [a, b, c]
  | [a, b, c], _ => ⟨a, b, c, rfl⟩
set_option maxRecDepth 100000 in
theorem txns_of {a : Option Addr} {len cap : Nat} {x : DataW H × List MemPlace} {fuel : Nat}
    (hf : DataW.trod enc Yba.prog W 0 (fun _ => true) true fuel 22 (Value.cells (.slice a len cap)).toList = some x) : IsTxns W a len cap := by
  rcases Go.Deep.open_slice Yba.underlying22 hf with ⟨hcs, _⟩ | ⟨y, l, c, m, n, D, Pl, hcs, _, hl, hm, hmm, _, hx⟩
  · simp [Value.cells] at hcs
    obtain ⟨rfl, rfl, rfl⟩ := hcs
    exact ⟨fun _ => ⟨rfl, rfl⟩, 0, 0, ⟨fun _ => 0, fun _ => 0, fun _ => 0⟩, fun h => by omega, fun i c hi => by omega, fun _ => ⟨Int.le_refl 0, show (0 : Int) ≤ 255 by decide⟩⟩
  · simp [Value.cells] at hcs
    obtain ⟨rfl, rfl, rfl⟩ := hcs
    simp at hmm
    subst hmm
    have ce : Yba.prog.cellsOf 26 = 3 := by kernel_rfl
    have each : ∀ i, i < m → ∃ q : Int × Int × Int, W.cell? (y.add (i * 3)) = some (.int .i64 q.1) ∧ W.cell? (y.add (i * 3 + 1)) = some (.int .u8 q.2.1) ∧ W.cell? (y.add (i * 3 + 2)) = some (.int .i64 q.2.2) ∧ 0 ≤ q.2.1 ∧ q.2.1 ≤ 255 := by
      intro i hi
      obtain ⟨cs', h1, h2⟩ := hx i hi
      rw [ce] at h1
      obtain ⟨_, hlen, hcell⟩ := World.cells?_some h1
      obtain ⟨xs, k, hk, hxy, _, hxl, hf⟩ := DataW.trod_struct Yba.underlying26 h2
      obtain ⟨y0, y1, y2, rfl⟩ := len3 xs hxl
      obtain ⟨v0, v1, v2, rfl⟩ := len3 cs' hlen
      have g0 := hf 0 _ rfl
      have g1 := hf 1 _ rfl
      have g2 := hf 2 _ rfl
      have c2 : Yba.prog.cellsOf 2 = 1 := by kernel_rfl
      have c5 : Yba.prog.cellsOf 5 = 1 := by kernel_rfl
      have c3 : Yba.prog.cellsOf 3 = 1 := by kernel_rfl
      simp [c2, c5, c3] at g0 g1 g2
      obtain ⟨n0, e0, _, _⟩ := DataW.trod_int Yba.underlying2 g0
      obtain ⟨n1, e1, _, w1⟩ := DataW.trod_int Yba.underlying5 g1
      obtain ⟨n2, e2, _, _⟩ := DataW.trod_int Yba.underlying3 g2
      simp at e0 e1 e2
      subst e0 e1 e2
      have k0 := hcell 0 (by omega)
      have k1 := hcell 1 (by omega)
      have k2 := hcell 2 (by omega)
      rw [Go.Deep.add_add] at k0 k1 k2
      have bd := bounds_u8 w1
      exact ⟨(n0, n1, n2), by simpa using k0, by simpa using k1, by simpa using k2, bd.1, bd.2⟩
    obtain ⟨q, hq⟩ := Go.Deep.choose_lt each
    obtain ⟨b, off, spot⟩ := y
    have hspot : 0 < len → spot = none := fun h => by
      have := World.cell?_spot (hq 0 (by omega)).1
      simpa [Addr.add] using this
    refine ⟨nofun, b, off, ⟨fun i => (q i).1, fun i => if i < len then (q i).2.1 else 0, fun i => (q i).2.2⟩, fun h => by rw [hspot h], fun i c hi hc => ?_, fun i => ?_⟩
    · obtain ⟨h0, h1, h2, _⟩ := hq i (by omega)
      rw [hspot (by omega), add_none] at h0 h1 h2
      match c, hc with
      | 0, _ => exact h0
      | 1, _ => rw [Nat.add_assoc, h1]; simp [Tx.v, hi]
      | 2, _ => rw [Nat.add_assoc, h2]; simp [Tx.v]
    · show 0 ≤ (if i < len then (q i).2.1 else 0) ∧ (if i < len then (q i).2.1 else 0) ≤ 255
      split
      · rename_i h
        exact (hq i (by omega)).2.2.2
      · omega
end

theorem walk (a0 : Option Addr) (m c0 : Nat) (ni ns now sa ta sb tb : Int) (w : World) (w0 : IsTxns w a0 m c0) (w1 : (Lit.int .u16 ni).wf = true) (w2 : (Lit.int .u16 ns).wf = true) :
    Calls Yba.prog 3 #[.slice a0 m c0, .int .u16 ni, .int .u16 ns, .int .i64 now, .int .i32 sa, .int .i32 ta, .int .i32 sb, .int .i32 tb] w fun e w' => e = .returned (.bool true) ∧ Below w.heap.size w w' := by
  by_cases h : m ≤ 1048576
  · obtain ⟨hn, b0, o0, X, ha0, hs0, hst⟩ := w0
    have n1 := bounds_u16 w1
    have n2 := bounds_u16 w2
    obtain ⟨ni', rfl⟩ : ∃ k : Nat, ni = (k : Int) := ⟨ni.toNat, by omega⟩
    obtain ⟨ns', rfl⟩ : ∃ k : Nat, ns = (k : Int) := ⟨ns.toNat, by omega⟩
    exact law3_any a0 m c0 b0 o0 ni' ns' now sa ta sb tb X w h (by omega) (by omega) hst hn ha0 hs0
  · exact law3_big a0 m c0 ni ns now sa ta sb tb w h

set_option maxRecDepth 100000 in
theorem lifted (os : Os) (started : os.Started) (H : Type) (enc : TypeId × Value → H) :
    ReturnsInHanded {} Yba.checked os 3 .any (Rows.lawS6090AWholeSpec.pre6 enc Yba.prog Yba.f3 Rows.lawS6090AWholeRow.domain false) (Rows.lawS6090AWholeSpec.post enc Yba.prog Yba.f3 false true false false) := by
  refine returnsInHanded_of_change (C := Yba.checked) own started (by kernel_rfl) Yba.func3
    (ChangeSpec.witness6 (enc := enc) (C := Yba.checked) false ⟨#[], #[.slice none 0 0, .int .u16 0, .int .u16 0, .int .i64 0, .int .i32 0, .int .i32 0, .int .i32 0, .int .i32 0], []⟩ 8 (by kernel_rfl) (by kernel_rfl) (by kernel_rfl) (by kernel_rfl)) ?_
  intro W base args ds gs before hval0 hW hcnd _
  have hval : ∀ (j : Nat) t v, Yba.f3.params[j]? = some t → args[j]? = some v → Value.okWide Yba.prog W .any base t v := hval0
  have hW' := hW
  obtain ⟨p, q, hA0, hV, rfl, hfz, hnd⟩ := hW
  have hA : DataW.TrodAll enc Yba.prog W 0 (fun _ => true) true Yba.f3.params.toList args.toList ds p := hA0
  rw [Yba.params3] at hA hval
  obtain ⟨v0, vs0, d0, ds0, p0, q0, hargs, rfl, rfl, h0, r0⟩ := trodAll_cons hA
  obtain ⟨v1, vs1, d1, ds1, p1, q1, rfl, rfl, rfl, h1, r1⟩ := trodAll_cons r0
  obtain ⟨v2, vs2, d2, ds2, p2, q2, rfl, rfl, rfl, h2, r2⟩ := trodAll_cons r1
  obtain ⟨v3, vs3, d3, ds3, p3, q3, rfl, rfl, rfl, h3, r3⟩ := trodAll_cons r2
  obtain ⟨v4, vs4, d4, ds4, p4, q4, rfl, rfl, rfl, h4, r4⟩ := trodAll_cons r3
  obtain ⟨v5, vs5, d5, ds5, p5, q5, rfl, rfl, rfl, h5, r5⟩ := trodAll_cons r4
  obtain ⟨v6, vs6, d6, ds6, p6, q6, rfl, rfl, rfl, h6, r6⟩ := trodAll_cons r5
  obtain ⟨v7, vs7, d7, ds7, p7, q7, rfl, rfl, rfl, h7, r7⟩ := trodAll_cons r6
  obtain ⟨rfl, rfl, rfl⟩ := trodAll_nil r7
  obtain rfl : args = #[v0, v1, v2, v3, v4, v5, v6, v7] := by cases args; simp_all
  obtain ⟨rfl, rfl⟩ := trodVars_none hV
  obtain ⟨a0, len0, cap0, rfl⟩ := okWide_slice Yba.underlying22 (hval 0 22 v0 rfl rfl)
  obtain ⟨a1, rfl, rfl, rfl, w1⟩ := open_int Yba.underlying23 (hval 1 23 v1 rfl rfl) h1
  obtain ⟨a2, rfl, rfl, rfl, w2⟩ := open_int Yba.underlying23 (hval 2 23 v2 rfl rfl) h2
  obtain ⟨a3, rfl, rfl, rfl, w3⟩ := open_int Yba.underlying3 (hval 3 3 v3 rfl rfl) h3
  obtain ⟨a4, rfl, rfl, rfl, w4⟩ := open_int Yba.underlying21 (hval 4 21 v4 rfl rfl) h4
  obtain ⟨a5, rfl, rfl, rfl, w5⟩ := open_int Yba.underlying21 (hval 5 21 v5 rfl rfl) h5
  obtain ⟨a6, rfl, rfl, rfl, w6⟩ := open_int Yba.underlying21 (hval 6 21 v6 rfl rfl) h6
  obtain ⟨a7, rfl, rfl, rfl, w7⟩ := open_int Yba.underlying21 (hval 7 21 v7 rfl rfl) h7
  have lt0 : ∀ x ∈ p0, x.block < W.heap.size := by obtain ⟨m, hm⟩ := h0; exact DataW.trod_lt m _ _ _ hm
  have w0 : IsTxns W a0 len0 cap0 := by obtain ⟨m, hm⟩ := h0; exact txns_of hm
  clear hA0 hval0
  refine (walk a0 len0 cap0 a1 a2 a3 a4 a5 a6 a7 W w0 w1 w2).mono fun e W' ⟨he, bel⟩ => ?_
  subst he
  exact ⟨_, rfl, _, _, _, [], _, [], hW', trodAll_mk1 (shut_bool Yba.underlying4 _),
    (trodAll_cons_mk (Below.trod laidOut (by kernel_rfl) (of_decide_eq_true (by kernel_rfl)) h0 bel lt0) (trodAll_cons_mk (shut_int Yba.underlying23 w1) (trodAll_cons_mk (shut_int Yba.underlying23 w2) (trodAll_cons_mk (shut_int Yba.underlying3 w3)
      (trodAll_cons_mk (shut_int Yba.underlying21 w4) (trodAll_cons_mk (shut_int Yba.underlying21 w5) (trodAll_cons_mk (shut_int Yba.underlying21 w6) (trodAll_cons_mk (shut_int Yba.underlying21 w7) trodAll_mk0)))))))), rfl, bel.frame _, fun h => by cases h⟩

theorem over : Rows.lawS6090AWholeRow.holds Yba.pinned (OpenSpec.ofChange Rows.lawS6090AWholeSpec) :=
  OpenClaim.holds_of_wide 3 Yba.f3 rfl rfl rfl rfl rfl rfl rfl ⟨rfl, rfl, rfl, rfl, rfl⟩ rfl rfl rfl rfl rfl (by kernel_rfl) Yba.func3 (by kernel_rfl)
    (of_decide_eq_true (by kernel_rfl)) (by unfold Func.isWrapper; first | (rw [if_pos (by decide +kernel)]; kernel_rfl) | (rw [if_neg (by decide +kernel)]; exact ⟨rfl, rfl⟩))
    (fun os started H enc _ => lifted os started H enc)

/-- The statement. -/
theorem proved : Rows.LawS6090AWholeSaid := over
end Go.Proofs.Ybulkdvcg.lawS6090AWhole
namespace Go.Proofs.Ybulkdvcg
/-- THE STATEMENT. -/
theorem lawS6090A_proved : Rows.LawS6090AWholeSaid := lawS6090AWhole.proved
end Go.Proofs.Ybulkdvcg

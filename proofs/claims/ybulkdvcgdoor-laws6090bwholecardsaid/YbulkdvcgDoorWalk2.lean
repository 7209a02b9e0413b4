/-
  slices.Clone and slices.Equal over intervals.
-/
import Derived.Test.YbulkdvcgDoorWalk1
import Derived.Maps.AppendAt
namespace Go.Proofs.YbulkdvcgDoor
open Go.RowKit

/-- '!=' on two intervals, shut. -/
def opNeq (x y : Operand) (u v : Value) : Sem Next := do pure (.value (← (do eqGuard .neq 25 x y u v; binOp .neq 25 u v)))
theorem exec_neq25 (ρ : Operand → Value) (dst : Option Tmp) (x y : Operand) (ty : TypeId) (pos : String) (after : Array Edge) (guard : Option (Nat × Bool)) (t2 : TypeId) :
    execOp ρ { dst, op := .binOp .neq 25 x y t2, type := ty, pos, after, guard } = opNeq x y (ρ x) (ρ y) := rfl
theorem Ybad.eqg25 : Ybad.prog.eqGuardType Ybad.prog.depth 25 = false := by kernel_rfl
theorem Ybad.stood25 : Ybad.prog.stoodInHeld 25 = false := by kernel_rfl
theorem Ybad.fields25 : Ybad.prog.underlying 25 = some (.struct (Ybad.prog.fieldsOf 25)) := by kernel_rfl
theorem neq_same (w : World) (x y : Operand) (s : ByteArray) (a b : Int) :
    (opNeq x y (.agg #[.string s, .int .i64 a, .int .i64 b]) (.agg #[.string s, .int .i64 a, .int .i64 b])).run Ybad.prog w = .ok (.value (.bool false)) w := by
  have h0 : ∀ d, (Op.equalIn (d + 1 + 1) 25 (.agg #[.string s, .int .i64 a, .int .i64 b]) (.agg #[.string s, .int .i64 a, .int .i64 b])).run Ybad.prog w = .ok true w := fun d => by
    rw [run_equalIn_struct w (d + 1) 25 _ _ Ybad.fields25 Ybad.stood25]
    have hf : (Ybad.prog.fieldsOf 25).toList.map (fun f => (f.name, f.type, f.offset)) = [("Attr", 9, 0), ("Min", 2, 1), ("Max", 2, 2)] := by kernel_rfl
    generalize (Ybad.prog.fieldsOf 25).toList = fs at hf
    have hl : fs.length = 3 := by have := congrArg List.length hf; simpa using this
    match fs, hl, hf with
    | [f0, f1, f2], _, hf =>
      simp only [List.map_cons, List.map_nil, List.cons.injEq, Prod.mk.injEq, and_true] at hf
      obtain ⟨⟨n0, t0, o0⟩, ⟨n1, t1, o1⟩, ⟨n2, t2, o2⟩⟩ := hf
      simp [Op.eqFields, n0, t0, o0, n1, t1, o1, n2, t2, o2, part, isAgg, Sem.run_bind, run_underlying Ybad.underlying9, run_underlying Ybad.underlying2, run_equalIn_string w d 9 s s Ybad.underlying9, run_equalIn_int w d 2 .i64 .i64 _ _ Ybad.underlying2]
  have h2 : (Op.equal 25 (.agg #[.string s, .int .i64 a, .int .i64 b]) (.agg #[.string s, .int .i64 a, .int .i64 b])).run Ybad.prog w = .ok true w := h0 9998
  unfold opNeq
  simp only [Sem.run_bind, run_eqGuard_agg w .neq 25 x y _ _ Ybad.eqg25, Result.andThen_ok]
  simp only [binOp, Sem.run_bind, h2, Result.andThen_ok, Sem.run_pure, Bool.not_true]

attribute [local go_sem ↓] exec_neq25
attribute [local go_sem] neq_same

set_option maxHeartbeats 1000000 in
/-- slices.Equal over two slices of intervals that hold the same. -/
theorem equal_iv (a1 a2 : Option Addr) (n c1 c2 b1 o1 b2 o2 : Nat) (S : Nat → ByteArray) (mn mx : Nat → Int) (w : World) (hn : n ≤ 1048576) (h1 : Ivs w a1 n b1 o1 S mn mx) (h2 : Ivs w a2 n b2 o2 S mn mx) :
    Calls Ybad.prog 7 #[.slice a1 n c1, .slice a2 n c2] w fun e w' => e = .returned (.bool true) ∧ ∃ q, w' = w.drewN q := by
  have hn2 : (n : Int) ≤ 1048576 := by omega
  go_enter Ybad.func7, Ybad.ntmps7
  go_wp2
  go_loopw [13] (fun i wr => ∃ k : Nat, k ≤ n ∧ i = .int .i64 k ∧ Hid (∃ q, wr = w.drewN q)) (fun i _ => n - (intOf i).toNat)
  case atStart => exact ⟨0, Nat.zero_le _, rfl, 0, rfl⟩
  case round =>
    obtain ⟨k, hk, rfl, hw⟩ := hrel
    by_cases hlt : k < n
    · obtain rfl := h1.ad (by omega)
      obtain rfl := h2.ad (by omega)
      have d0 : wr.cell? ⟨b1, o1 + k * 3, none⟩ = some (.string (S k)) := by obtain ⟨q, rfl⟩ := hw; simpa using h1.c0 k hlt
      have d1 : wr.cell? ⟨b1, o1 + k * 3 + 1, none⟩ = some (.int .i64 (mn k)) := by obtain ⟨q, rfl⟩ := hw; simpa using h1.c1 k hlt
      have d2 : wr.cell? ⟨b1, o1 + k * 3 + 2, none⟩ = some (.int .i64 (mx k)) := by obtain ⟨q, rfl⟩ := hw; simpa using h1.c2 k hlt
      have e0 : wr.cell? ⟨b2, o2 + k * 3, none⟩ = some (.string (S k)) := by obtain ⟨q, rfl⟩ := hw; simpa using h2.c0 k hlt
      have e1 : wr.cell? ⟨b2, o2 + k * 3 + 1, none⟩ = some (.int .i64 (mn k)) := by obtain ⟨q, rfl⟩ := hw; simpa using h2.c1 k hlt
      have e2 : wr.cell? ⟨b2, o2 + k * 3 + 2, none⟩ = some (.int .i64 (mx k)) := by obtain ⟨q, rfl⟩ := hw; simpa using h2.c2 k hlt
      have k0 : (0 : Int) ≤ (k : Int) := by omega
      have k1 : (k : Int) < (n : Int) := by omega
      clear h1 h2
      go_wp2
      go_quiet (fail)
      go_wp2
      go_roundw
      case rel => exact ⟨k + 1, by omega, by go_num, by obtain ⟨q, rfl⟩ := hw; exact ⟨_, by rw [World.drewN_drewN]⟩⟩
      case measure => simp [intOf]; omega
    · have e : k = n := by omega
      subst e
      go_wp2
      go_ret
      exact ⟨rfl, hw⟩

/-- The cells of n intervals, one behind the other. -/
def ivC (S : Nat → ByteArray) (mn mx : Nat → Int) (i : Nat) : Value := if i % 3 = 0 then .string (S (i / 3)) else if i % 3 = 1 then .int .i64 (mn (i / 3)) else .int .i64 (mx (i / 3))
def ivL (S : Nat → ByteArray) (mn mx : Nat → Int) (n : Nat) : List Value := (List.range (n * 3)).map (ivC S mn mx)
theorem ivL_len (S : Nat → ByteArray) (mn mx : Nat → Int) (n : Nat) : (ivL S mn mx n).length = n * 3 := by simp [ivL]
theorem ivL_at (S : Nat → ByteArray) (mn mx : Nat → Int) (n i : Nat) (hi : i < n * 3) : (ivL S mn mx n)[i]? = some (ivC S mn mx i) := by simp [ivL, hi]
theorem ivC_cell {w : World} {a : Option Addr} {n b off : Nat} {S : Nat → ByteArray} {mn mx : Nat → Int} (h : Ivs w a n b off S mn mx) (i : Nat) (hi : i < n * 3) : w.cell? ⟨b, off + i, none⟩ = some (ivC S mn mx i) := by
  unfold ivC
  have hj : i / 3 < n := by omega
  split
  · have := h.c0 (i / 3) hj; rwa [show off + i / 3 * 3 = off + i by omega] at this
  · split
    · have := h.c1 (i / 3) hj; rwa [show off + i / 3 * 3 + 1 = off + i by omega] at this
    · have := h.c2 (i / 3) hj; rwa [show off + i / 3 * 3 + 2 = off + i by omega] at this
theorem inf25 : ∃ i z, Ybad.prog.info? 25 = some i ∧ i.zero = some z ∧ i.size = 3 ∧ i.bytes = 32 ∧ z.cells.size = 3 := by
  have h : (Ybad.prog.info? 25).map (fun i => (i.zero.map (·.cells.size), i.size, i.bytes)) = some (some 3, 3, 32) := by kernel_rfl
  cases hi : Ybad.prog.info? 25 with
  | none => rw [hi] at h; simp at h
  | some i =>
    rw [hi] at h; simp at h
    obtain ⟨⟨z, hz, hzs⟩, h2, h3⟩ := h
    exact ⟨i, z, rfl, hz, h2, h3, hzs⟩

set_option maxHeartbeats 1000000 in
/-- slices.Clone of a slice that is not nil. -/
theorem clone_some (ad : Addr) (n c b off : Nat) (S : Nat → ByteArray) (mn mx : Nat → Int) (w : World) (hn : n ≤ 1048576) (h : Ivs w (some ad) n b off S mn mx) :
    Calls Ybad.prog 4 #[.slice (some ad) n c] w fun e w' => ∃ g c', e = .returned (.slice (some ⟨g, 0, none⟩) n c') ∧ Ivs w' (some ⟨g, 0, none⟩) n g 0 S mn mx ∧ Below w.heap.size w w' := by
  obtain ⟨i25, z, hi, hz, hs, hb, hzs⟩ := inf25
  have hown : (w.alloc (Obj.cells #[] 25)).ownsRow w.heap.size 25 3 (.slice (some ⟨w.heap.size, 0, none⟩) 0 0) 0 [] := World.ownsRow_made w #[] 0 (Nat.le_refl _) (by unfold maxLen; omega) rfl
  have hnil := fun W => Lib.run_eql_slice_nil (P := Ybad.prog) W 22 25 (some ad) n c 0 0 Ybad.underlying22
  go_enter Ybad.func4, Ybad.ntmps4
  go_wp2_with (at_builtin; (refine wpList_append_own_at (w.alloc (Obj.cells #[] 25)) rfl _ _ 22 rfl w.heap.size 25 i25 z 3 32 Ybad.underlying22 hi hz hs hb hzs (by omega) (.slice (some ⟨w.heap.size, 0, none⟩) 0 0) 0 [] rfl hown ad n c (ivL S mn mx n) rfl ?hl ?news ?one ?h63 ?bytes ?base ?_))
  case hl => rw [ivL_len]
  case news =>
    intro j u hu
    have hj : j < n * 3 := by have := (List.getElem?_eq_some_iff.1 hu).1; rwa [ivL_len] at this
    rw [ivL_at S mn mx n j hj] at hu
    obtain rfl := Option.some.inj (h.ad (by omega))
    have e : (⟨b, off, none⟩ : Addr).add j = ⟨b, off + j, none⟩ := by unfold Addr.add; split <;> simp_all
    have hc := ivC_cell h j hj
    rw [e, World.cell?_alloc_lt _ _ _ (World.block_lt_of_cell? w _ hc), hc, hu]
  case one =>
    intro u hu
    simp only [ivL, List.mem_map] at hu
    obtain ⟨i, _, rfl⟩ := hu
    unfold ivC
    split
    · rfl
    · split <;> rfl
  case h63 => unfold maxLen; omega
  case bytes => omega
  case base => simp
  intro v' w' ho hg hnl _
  have hform : ∃ g c', v' = .slice (some ⟨g, 0, none⟩) n c' := by
    rcases ho.2 with ⟨hv, _⟩ | ⟨g, cap, cur, hv, _⟩
    · exact (hnl hv).elim
    · exact ⟨g, cap, by rw [hv]⟩
  obtain ⟨g, c', rfl⟩ := hform
  have HV : Hid (Ivs w' (some ⟨g, 0, none⟩) n g 0 S mn mx ∧ Below w.heap.size w w') := by
    have ho' : w'.ownsRow w.heap.size 25 3 (.slice (some ⟨g, 0, none⟩) n c') n (ivL S mn mx n) := by simpa using ho
    have hc : ∀ i, i < n * 3 → w'.cell? ⟨g, i, none⟩ = some (ivC S mn mx i) := fun i hi => by rw [ho'.cellAt i hi, ivL_at S mn mx n i hi]
    refine ⟨⟨fun _ => rfl, fun j hj => ?_, fun j hj => ?_, fun j hj => ?_⟩, ((Below.refl _ _).alloc (Nat.le_refl _) _).grown hg (by simp) (fun k hk => by simp [Value.ownBlock] at hk; omega)⟩
    · rw [Nat.zero_add, hc _ (by omega)]
      have e1 : j * 3 % 3 = 0 := by omega
      have e2 : j * 3 / 3 = j := by omega
      simp [ivC, e2]
    · rw [Nat.zero_add, hc _ (by omega)]
      have e1 : (j * 3 + 1) % 3 = 1 := by omega
      have e2 : (j * 3 + 1) / 3 = j := by omega
      simp [ivC, e1, e2]
    · rw [Nat.zero_add, hc _ (by omega)]
      have e1 : (j * 3 + 2) % 3 = 2 := by omega
      have e2 : (j * 3 + 2) / 3 = j := by omega
      simp [ivC, e1, e2]
  clear ho hg hnl h hown
  go_wp2
  go_ret
  exact ⟨g, c', rfl, HV.out.1, HV.out.2⟩

/-- slices.Clone of nil. -/
theorem clone_nil (w : World) : Calls Ybad.prog 4 #[.slice none 0 0] w fun e w' => e = .returned (.slice none 0 0) ∧ w' = w := by
  have hnil := fun W => Lib.run_eql_slice_nil (P := Ybad.prog) W 22 25 none 0 0 0 0 Ybad.underlying22
  go_enter Ybad.func4, Ybad.ntmps4
  go_wp2
  go_ret
  exact ⟨rfl, rfl⟩

end Go.Proofs.YbulkdvcgDoor

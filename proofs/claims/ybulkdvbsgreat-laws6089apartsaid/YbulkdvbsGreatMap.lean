/-
  Maps, as functions from keys to what they hold.
-/
import Derived.Test.YbulkdvbsGreatBase
import Derived.Maps.OwnSet
import Derived.Maps.Range
namespace Go.Proofs.YbulkdvbsGreat
open Go.RowKit
open Go.Maps (Keyed)

/-- A value is held as it is. -/
def anyV (v : Value) : Option (DataW Value × List MemPlace) := some (.held v, [])
/-- The datum, as a function. -/
structure MView (D : DataW Value) (m : Lit → Option Value) : Prop where
  has : ∀ l, Maps.has D l = (m l).isSome
  val : ∀ l v, m l = some v → ∀ z, D.atKey l z = .held v
/-- Block b is a map of at most n entries, m. -/
structure MP (w : World) (k : TypeId) (b n : Nat) (m : Lit → Option Value) : Prop where
  ex : ∃ D, w.ownsMap Ybaz.prog k anyV b n D ∧ MView D m
theorem MP.made (w : World) (k : TypeId) : MP (w.alloc (.map #[] 0)) k w.heap.size 0 (fun _ => none) :=
  ⟨_, World.ownsMap_made w _ k anyV, ⟨fun _ => rfl, fun _ _ h => by simp at h⟩⟩
theorem MP.lt {w : World} {k : TypeId} {b n : Nat} {m : Lit → Option Value} (h : MP w k b n m) : b < w.heap.size := by obtain ⟨D, h, _⟩ := h; exact h.lt
theorem MP.keepb {w w' : World} {k : TypeId} {b n : Nat} {m : Lit → Option Value} (h : MP w k b n m) (hb : w'.heap[b]? = w.heap[b]?) : MP w' k b n m := by
  obtain ⟨D, ⟨es, c, h1, r⟩, v⟩ := h
  exact ⟨D, ⟨es, c, hb.trans h1, r⟩, v⟩
theorem MP.keep {F : Nat → Prop} {w w' : World} {k : TypeId} {b n : Nat} {m : Lit → Option Value} (h : MP w k b n m) (kp : Keep F w w') (hF : ¬ F b) : MP w' k b n m := h.keepb (kp.block b h.lt hF)
theorem MP.mono {w : World} {k : TypeId} {b n n' : Nat} {m : Lit → Option Value} (h : MP w k b n m) (hn : n ≤ n') : MP w k b n' m := by
  obtain ⟨D, h, v⟩ := h
  exact ⟨D, h.mono hn, v⟩
theorem MP.congr {w : World} {k : TypeId} {b n : Nat} {m m' : Lit → Option Value} (h : MP w k b n m) (e : ∀ l, m l = m' l) : MP w k b n m' := by
  have : m = m' := funext e
  rw [← this]; exact h
/-- It is a map, not cells. -/
theorem MP.not_cells {w : World} {k : TypeId} {b n : Nat} {m : Lit → Option Value} (h : MP w k b n m) {c : Array Value} {t : TypeId} {g : Nat} (hg : w.heap[g]? = some (.cells c t)) : g ≠ b := fun e => by
  obtain ⟨D, ⟨es, cl, h1, _⟩, _⟩ := h
  subst e
  rw [hg] at h1
  simp at h1
theorem keep_map {w w' : World} {b : Nat} (h : w.mapTurned w' b) : Keep (fun i => i = b) w w' ∧ w'.heap.size = w.heap.size := by
  have g := h.grown
  refine ⟨⟨g.os, g.tape, g.output, g.size, fun i hi hn => g.block i hi (fun e => hn (by injection e))⟩, ?_⟩
  obtain ⟨es, clock, es', clock', hb, rfl⟩ := h
  exact Array.size_setIfInBounds
section
variable {w : World} {k t e : TypeId} {b n : Nat} {m : Lit → Option Value} {key z : Value} {kl : Lit}
theorem view_at {D : DataW Value} (v : MView D m) {x : Value} {ps : List MemPlace} (hx : anyV x = some (D.atKey kl (.held z), ps)) : x = (m kl).getD z := by
  simp only [anyV, Option.some.injEq, Prod.mk.injEq] at hx
  obtain ⟨hx, _⟩ := hx
  cases hm : m kl with
  | none =>
    have := v.has kl
    rw [hm] at this
    rw [Maps.atKey_of_not_has this] at hx
    injection hx with hx
  | some y =>
    rw [v.val kl y hm] at hx
    injection hx with hx
theorem MP.look (h : MP w k b n m) (K : Keyed Ybaz.prog k) (ht : Ybaz.prog.underlying t = some (.map k e)) (hz : (zeroValue e).run Ybaz.prog w = .ok z w) (hkey : keyOf Ybaz.prog k key = some kl) :
    (Instr.lookup t (.map (some b)) key false).run Ybaz.prog w = .ok ((m kl).getD z) w := by
  obtain ⟨D, h, v⟩ := h
  obtain ⟨x, ps, hrun, hx⟩ := h.lookup K ht hz (zd := .held z) (zp := []) rfl hkey
  have := view_at v hx
  subst this
  exact hrun
theorem MP.look_ok (h : MP w k b n m) (K : Keyed Ybaz.prog k) (ht : Ybaz.prog.underlying t = some (.map k e)) (hz : (zeroValue e).run Ybaz.prog w = .ok z w) (hkey : keyOf Ybaz.prog k key = some kl) :
    (Instr.lookup t (.map (some b)) key true).run Ybaz.prog w = .ok (.tuple #[(m kl).getD z, .bool (m kl).isSome]) w := by
  obtain ⟨D, h, v⟩ := h
  obtain ⟨x, ps, hrun, hx⟩ := h.look_ok K ht hz (zd := .held z) (zp := []) rfl hkey
  have := view_at v hx
  subst this
  rw [← v.has kl]
  exact hrun
/-- Two keys are the same. -/
def litEq : Lit → Lit → Bool
  | .bool a, .bool b => a == b
  | .int k n, .int k' n' => k == k' && n == n'
  | .float k n, .float k' n' => k == k' && n == n'
  | .string s, .string s' => s == s'
  | .nil, .nil => true
  | _, _ => false
theorem litEq_iff (a b : Lit) : litEq a b = true ↔ a = b := by
  cases a <;> cases b <;> simp [litEq]
def litDec (a b : Lit) : Decidable (a = b) := if h : litEq a b = true then .isTrue ((litEq_iff a b).1 h) else .isFalse (fun e => h ((litEq_iff a b).2 e))
/-- One key laid. -/
def mput (m : Lit → Option Value) (kl : Lit) (v : Value) : Lit → Option Value := fun l => @ite _ (l = kl) (litDec l kl) (some v) (m l)
/-- One key taken out. -/
def mdel (m : Lit → Option Value) (kl : Lit) : Lit → Option Value := fun l => @ite _ (l = kl) (litDec l kl) none (m l)
theorem MP.put (h : MP w k b n m) (K : Keyed Ybaz.prog k) (ht : Ybaz.prog.underlying t = some (.map k e)) (hn : n < maxLen) (hkey : keyOf Ybaz.prog k key = some kl) (val : Value) :
    ∃ w', (Instr.mapUpdate t (.map (some b)) key val).run Ybaz.prog w = .ok () w' ∧ MP w' k b (n + 1) (mput m kl val) ∧ Keep (fun i => i = b) w w' ∧ w'.heap.size = w.heap.size := by
  obtain ⟨D, h, v⟩ := h
  obtain ⟨w', hrun, h', ht⟩ := h.store K ht hn (d := .held val) (ps := []) hkey rfl
  refine ⟨w', hrun, ⟨_, h', ⟨fun l => ?_, fun l x hx z => ?_⟩⟩, (keep_map ht).1, (keep_map ht).2⟩
  · by_cases q : l = kl
    · subst q
      rw [Maps.has_put_same h.isMap (K.key hkey)]
      simp [mput]
    · rw [Maps.has_put_other q, v.has l]
      simp [mput, q]
  · by_cases q : l = kl
    · subst q
      simp [mput] at hx
      subst hx
      exact Maps.atKey_put_same h.isMap (K.key hkey) _ _
    · simp [mput, q] at hx
      rw [Maps.atKey_put_other q]
      exact v.val l x hx z
theorem MP.del (h : MP w k b n m) (K : Keyed Ybaz.prog k) (ht : Ybaz.prog.underlying t = some (.map k e)) (hkey : keyOf Ybaz.prog k key = some kl) (ty : TypeId) :
    ∃ w', (Builtin.delete_ #[t, k] ty #[.map (some b), key]).run Ybaz.prog w = .ok (.tuple #[]) w' ∧ MP w' k b n (mdel m kl) ∧ Keep (fun i => i = b) w w' ∧ w'.heap.size = w.heap.size := by
  obtain ⟨D, h, v⟩ := h
  obtain ⟨w', hrun, h', ht⟩ := h.drop K ht hkey ty
  refine ⟨w', hrun, ⟨_, h', ⟨fun l => ?_, fun l x hx z => ?_⟩⟩, (keep_map ht).1, (keep_map ht).2⟩
  · by_cases q : l = kl
    · subst q
      rw [Maps.has_del_same]
      simp [mdel]
    · rw [Maps.has_del_other q, v.has l]
      simp [mdel, q]
  · by_cases q : l = kl
    · subst q
      simp [mdel] at hx
    · simp [mdel, q] at hx
      rw [Maps.atKey_del_other q]
      exact v.val l x hx z
/-- The keys. -/
def KeysOf (m : Lit → Option Value) (L : List Lit) : Prop := L.Nodup ∧ ∀ l, l ∈ L ↔ (m l).isSome = true
theorem view_keys {D : DataW Value} (h : w.ownsMap Ybaz.prog k anyV b n D) (K : Keyed Ybaz.prog k) (v : MView D m) : ∃ L, KeysOf m L ∧ L.length = Maps.size D := by
  obtain ⟨es, rfl, hp, hk⟩ := h.entries K
  refine ⟨es.map Prod.fst, ⟨?_, fun l => ?_⟩, by simp [Maps.size]⟩
  · rw [List.nodup_iff_pairwise_ne, List.pairwise_map]; exact hp
  · rw [← v.has l, Maps.has_eq, List.any_eq_true, List.mem_map]
    constructor
    · rintro ⟨p, hp, rfl⟩
      exact ⟨p, hp, WideAt.sameKey_self (hk p hp)⟩
    · rintro ⟨p, hp, hs⟩
      exact ⟨p, hp, WideAt.sameKey_eq hs⟩
theorem MP.len (h : MP w k b n m) (K : Keyed Ybaz.prog k) (ht : Ybaz.prog.underlying t = some (.map k e)) : ∃ L, KeysOf m L ∧ L.length ≤ n ∧ ∀ ty, (Builtin.len_ #[t] ty #[.map (some b)]).run Ybaz.prog w = .ok (.int .i64 (L.length : Int)) w := by
  obtain ⟨D, h, v⟩ := h
  obtain ⟨L, hL, hl⟩ := view_keys h K v
  exact ⟨L, hL, by rw [hl]; exact h.size_le, fun ty => by rw [h.len ht ty, hl]⟩

/-- A range over the map under way: 'left' is still to come. -/
structure MR (w : World) (k : TypeId) (b r n : Nat) (m : Lit → Option Value) (left : Lit → Bool) (cnt : Nat) : Prop where
  ex : ∃ D, w.ranges Ybaz.prog k anyV b r n D left cnt ∧ MView D m
theorem MR.mp {r : Nat} {left : Lit → Bool} {cnt : Nat} (h : MR w k b r n m left cnt) : MP w k b n m := by obtain ⟨D, h, v⟩ := h; exact ⟨D, h.owns, v⟩
theorem MR.lt {r : Nat} {left : Lit → Bool} {cnt : Nat} (h : MR w k b r n m left cnt) : r < w.heap.size := by obtain ⟨D, h, v⟩ := h; exact h.lt
theorem MR.keep {r : Nat} {left : Lit → Bool} {cnt : Nat} {F : Nat → Prop} {w' : World} (h : MR w k b r n m left cnt) (kp : Keep F w w') (hF : ¬ F b) (hr : ¬ F r) : MR w' k b r n m left cnt := by
  have l1 := h.mp.lt
  have l2 := h.lt
  obtain ⟨D, ⟨es, clock, since, seen, c0, hb, F, hs, hD, hr2, rest⟩, v⟩ := h
  exact ⟨D, ⟨es, clock, since, seen, c0, (kp.block b l1 hF).trans hb, F, hs, hD, (kp.block r l2 hr).trans hr2, rest⟩, v⟩
theorem MP.range (h : MP w k b n m) (K : Keyed Ybaz.prog k) (ht : Ybaz.prog.underlying t = some (.map k e)) :
    ∃ w' L, (Instr.range t (.map (some b))).run Ybaz.prog w = .ok (.pointer (some ⟨w.heap.size, 0, none⟩)) w' ∧ MR w' k b w.heap.size n m (fun l => (m l).isSome) L ∧ Keep (fun _ => False) w w' ∧ w'.heap.size = w.heap.size + 1 ∧ L ≤ n := by
  obtain ⟨D, h, v⟩ := h
  obtain ⟨w', hrun, hr, hg, hs⟩ := h.range K ht
  have e1 : Maps.has D = fun l => (m l).isSome := funext v.has
  rw [e1] at hr
  exact ⟨w', _, hrun, ⟨D, hr, v⟩, ⟨hg.os, hg.tape, hg.output, hg.size, fun i hi _ => hg.block i hi (by simp)⟩, hs, h.size_le⟩
/-- One key less. -/
def lless (left : Lit → Bool) (kl : Lit) : Lit → Bool := fun x => @ite _ (x = kl) (litDec x kl) false (left x)
theorem MR.next {r : Nat} {left : Lit → Bool} {cnt : Nat} (h : MR w k b r n m left cnt) (K : Keyed Ybaz.prog k) (ty : TypeId) :
    (cnt = 0 ∧ (∀ l, left l = false) ∧ (Instr.next (.pointer (some ⟨r, 0, none⟩)) false ty).run Ybaz.prog w = .ok (.tuple #[.bool false]) w) ∨
    ∃ key v kl w' cnt', keyOf Ybaz.prog k key = some kl ∧ left kl = true ∧ m kl = some v ∧ (Instr.next (.pointer (some ⟨r, 0, none⟩)) false ty).run Ybaz.prog w = .ok (.tuple #[.bool true, key, v]) w' ∧
      MR w' k b r n m (lless left kl) cnt' ∧ cnt' < cnt ∧ Keep (fun i => i = r) w w' ∧ w'.heap.size = w.heap.size ∧ (Instr.entry (.pointer (some ⟨r, 0, none⟩))).run Ybaz.prog w' = .ok (.tuple #[key, v]) w' := by
  obtain ⟨D, h, v⟩ := h
  rcases h.next K ty with ⟨h0, h1, h2⟩ | ⟨key, x, kl, y, w', cnt', hkey, hl, hx, hat, hrun, hr', hc, hg, hs, he⟩
  · exact .inl ⟨h0, h1, h2⟩
  · have hm : m kl = some x := by
      have e := hat (.held x)
      have hh := v.has kl
      cases q : m kl with
      | none => 
        rw [q] at hh
        exact absurd (Maps.has_true_of_atKey hat) (by rw [hh]; simp)
      | some x' =>
        rw [v.val kl x' q] at e
        simp only [anyV, Option.some.injEq] at hx
        subst hx
        exact congrArg some (DataW.held.inj e)
    have e2 : (fun x => left x && !x.sameKey kl) = lless left kl := by
      funext x
      unfold lless
      by_cases q : x = kl
      · subst q; rw [WideAt.sameKey_self (K.key hkey)]; simp
      · have : x.sameKey kl = false := by
          cases q2 : x.sameKey kl
          · rfl
          · exact absurd (WideAt.sameKey_eq q2) q
        rw [this]; simp [q]
    rw [e2] at hr'
    exact .inr ⟨key, x, kl, w', cnt', hkey, hl, hm, hrun, ⟨D, hr', v⟩, hc, ⟨hg.os, hg.tape, hg.output, hg.size, fun i hi hn => hg.block i hi (fun e => hn (by injection e))⟩, hs, he⟩
end

/-- A function of numbers, as one of keys. -/
def intM (q : IntKind) (f : Int → Option Value) : Lit → Option Value
  | .int q' x => if q' = q then f x else none
  | _ => none
theorem intM_int (q : IntKind) (f : Int → Option Value) (x : Int) : intM q f (.int q x) = f x := by simp [intM]
theorem intM_none (q : IntKind) : (fun _ => none) = intM q (fun _ => none) := by funext l; cases l <;> simp [intM]
theorem intM_put (q : IntKind) (f : Int → Option Value) (x : Int) (v : Value) : mput (intM q f) (.int q x) v = intM q (fun y => if y = x then some v else f y) := by
  funext l
  unfold mput
  cases l with
  | int q' y =>
    by_cases e : q' = q
    · subst e
      by_cases e2 : y = x
      · simp [intM, e2]
      · simp [intM, e2]
    · simp [intM, e]
  | _ => simp [intM]
theorem intM_del (q : IntKind) (f : Int → Option Value) (x : Int) : mdel (intM q f) (.int q x) = intM q (fun y => if y = x then none else f y) := by
  funext l
  unfold mdel
  cases l with
  | int q' y =>
    by_cases e : q' = q
    · subst e
      by_cases e2 : y = x
      · simp [intM, e2]
      · simp [intM, e2]
    · simp [intM, e]
  | _ => simp [intM]
theorem intM_some {q : IntKind} {f : Int → Option Value} {l : Lit} (h : (intM q f l).isSome = true) : ∃ x, l = .int q x ∧ (f x).isSome = true := by
  cases l with
  | int q' y =>
    by_cases e : q' = q
    · subst e; exact ⟨y, rfl, by simpa [intM] using h⟩
    · simp [intM, e] at h
  | _ => simp [intM] at h
/-- Keys in a list. -/
theorem keys_count {m : Lit → Option Value} {L : List Lit} (h : KeysOf m L) (A : List Lit) (hA : A.Nodup) (hin : ∀ l, (m l).isSome = true → l ∈ A) : L.length = (A.filter fun l => (m l).isSome).length := by
  refine List.Perm.length_eq ?_
  refine (List.perm_ext_iff_of_nodup h.1 (hA.sublist List.filter_sublist)).2 (fun l => ?_)
  rw [h.2 l, List.mem_filter]
  exact ⟨fun q => ⟨hin l q, q⟩, fun q => q.2⟩
end Go.Proofs.YbulkdvbsGreat

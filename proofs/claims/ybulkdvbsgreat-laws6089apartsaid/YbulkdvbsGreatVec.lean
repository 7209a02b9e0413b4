/-
  Rows that grow.
-/
import Derived.Test.YbulkdvbsGreatBase
import Derived.Deep.AppendLies
namespace Go.Proofs.YbulkdvbsGreat
open Go.RowKit

/-- n elements of k cells each. -/
def rowK (n k : Nat) (f : Nat → Nat → Value) : List Value := (List.range (n * k)).map fun j => f (j / k) (j % k)
theorem rowK_len (n k : Nat) (f : Nat → Nat → Value) : (rowK n k f).length = n * k := by simp [rowK]
theorem rowK_at (n k : Nat) (f : Nat → Nat → Value) (j : Nat) (hj : j < n * k) : (rowK n k f)[j]? = some (f (j / k) (j % k)) := by simp [rowK, hj]
theorem rowK_congr {n k : Nat} {f g : Nat → Nat → Value} (hk : 0 < k) (h : ∀ i c, i < n → c < k → f i c = g i c) : rowK n k f = rowK n k g := by
  unfold rowK
  apply List.map_congr_left
  intro j hj
  have hj' : j < n * k := by simpa using hj
  exact h _ _ ((Nat.div_lt_iff_lt_mul hk).2 hj') (Nat.mod_lt _ hk)
/-- The row with one more element behind. -/
def push (n : Nat) (f : Nat → Nat → Value) (y : Nat → Value) : Nat → Nat → Value := fun i c => if i = n then y c else f i c
theorem rowK_push (n k : Nat) (f : Nat → Nat → Value) (y : Nat → Value) (hk : 0 < k) : rowK (n + 1) k (push n f y) = rowK n k f ++ (List.range k).map y := by
  apply List.ext_getElem?
  intro j
  by_cases h1 : j < n * k
  · rw [List.getElem?_append_left (by rw [rowK_len]; exact h1), rowK_at _ _ _ _ h1, rowK_at _ _ _ _ (by rw [Nat.add_mul]; omega)]
    have : j / k < n := (Nat.div_lt_iff_lt_mul hk).2 h1
    simp [push, show ¬ j / k = n by omega]
  · rw [List.getElem?_append_right (by rw [rowK_len]; omega), rowK_len]
    by_cases h2 : j < (n + 1) * k
    · rw [rowK_at _ _ _ _ h2]
      rw [Nat.add_mul, Nat.one_mul] at h2
      have e1 : j / k = n := by
        have hle : n * k ≤ j := by omega
        have hlt : j < (n + 1) * k := by rw [Nat.add_mul, Nat.one_mul]; exact h2
        exact Nat.div_eq_of_lt_le hle hlt
      have e2 : j % k = j - n * k := by
        have := Nat.div_add_mod j k
        rw [e1, Nat.mul_comm] at this; omega
      have h3 : j - n * k < k := by omega
      simp [push, e1, e2, h3]
    · rw [Nat.add_mul, Nat.one_mul] at h2
      rw [List.getElem?_eq_none (by rw [rowK_len, Nat.add_mul, Nat.one_mul]; omega), List.getElem?_eq_none (by simp; omega)]

/-- Block L holds n elements of k cells each, f, and may be written. -/
structure RowK (w : World) (L n k : Nat) (f : Nat → Nat → Value) : Prop where
  cell : ∀ i c, i < n → c < k → w.cell? ⟨L, i * k + c, none⟩ = some (f i c)
  free : ∀ i, w.frozen? ⟨L, i, none⟩ = false
theorem RowK.keep {w w' : World} {L n k : Nat} {f : Nat → Nat → Value} (h : RowK w L n k f) (hb : w'.heap[L]? = w.heap[L]?) : RowK w' L n k f :=
  ⟨fun i c hi hc => by rw [World.cell?_of_block (a := ⟨L, i * k + c, none⟩) hb]; exact h.cell i c hi hc, fun i => by rw [World.frozen?_of_block (a := ⟨L, i, none⟩) hb]; exact h.free i⟩

/-- A slice that owns its row: n elements of k cells each, f; from the start of its block. -/
structure Vec (w : World) (e : TypeId) (k : Nat) (a : Option Addr) (n c : Nat) (f : Nat → Nat → Value) : Prop where
  own : w.ownsRow 0 e k (.slice a n c) n (rowK n k f)
theorem Vec.nil (w : World) (e : TypeId) (k : Nat) (f : Nat → Nat → Value) : Vec w e k none 0 0 f := ⟨by
  have : rowK 0 k f = [] := by simp [rowK]
  rw [this]; exact World.ownsRow_nil w 0 e k⟩
theorem Vec.blk {w : World} {e : TypeId} {k : Nat} {a : Option Addr} {n c : Nat} {f : Nat → Nat → Value} (h : Vec w e k a n c f) (hn : 0 < n) : ∃ g, a = some ⟨g, 0, none⟩ ∧ g < w.heap.size ∧ RowK w g n k f := by
  rcases h.own.2 with ⟨_, h0⟩ | ⟨g, cap, cur, hv, _, hb, hle, _, hsz, ht⟩
  · omega
  · have hv' : a = some ⟨g, 0, none⟩ := by injection hv
    refine ⟨g, hv', heap_lt hb, fun i c hi hc => ?_, fun i => by simp [World.frozen?, hb]⟩
    have hj : i * k + c < n * k := by
      have : (i + 1) * k ≤ n * k := Nat.mul_le_mul_right k hi
      rw [Nat.add_mul, Nat.one_mul] at this; omega
    have h1 : w.cell? ⟨g, i * k + c, none⟩ = cur[i * k + c]? := by simp [World.cell?, hb]
    have h2 : (cur.toList.take (n * k))[i * k + c]? = (rowK n k f)[i * k + c]? := by rw [ht]
    rw [List.getElem?_take_of_lt hj, rowK_at _ _ _ _ hj] at h2
    have e1 : (i * k + c) / k = i := by
      have hk : 0 < k := by omega
      rw [Nat.mul_comm, Nat.mul_add_div hk, Nat.div_eq_of_lt hc]; rfl
    have e2 : (i * k + c) % k = c := by rw [Nat.add_comm, Nat.add_mul_mod_self_right]; exact Nat.mod_eq_of_lt hc
    rw [e1, e2] at h2
    rw [h1]; simpa using h2
theorem Vec.keep {F : Nat → Prop} {w w' : World} {e : TypeId} {k : Nat} {a : Option Addr} {n c : Nat} {f : Nat → Nat → Value} (h : Vec w e k a n c f) (kp : Keep F w w') (hF : ∀ g, a = some ⟨g, 0, none⟩ → ¬ F g) : Vec w' e k a n c f := by
  refine ⟨h.own.1, ?_⟩
  rcases h.own.2 with h0 | ⟨g, cap, cur, hv, h1, hb, h2⟩
  · exact .inl h0
  · exact .inr ⟨g, cap, cur, hv, h1, kp.at hb (hF g (by injection hv)), h2⟩
theorem Vec.congr {w : World} {e : TypeId} {k : Nat} {a : Option Addr} {n c : Nat} {f g : Nat → Nat → Value} (h : Vec w e k a n c f) (hk : 0 < k) (hfg : ∀ i c, i < n → c < k → f i c = g i c) : Vec w e k a n c g := ⟨by rw [← rowK_congr hk hfg]; exact h.own⟩
theorem Vec.block_ty {w : World} {e : TypeId} {k : Nat} {a : Option Addr} {n c : Nat} {f : Nat → Nat → Value} (h : Vec w e k a n c f) {g : Nat} (hg : a = some ⟨g, 0, none⟩) : ∃ cur, w.heap[g]? = some (.cells cur e) := by
  rcases h.own.2 with ⟨h0, _⟩ | ⟨g', cap, cur, hv, h1, hb, h2⟩
  · subst hg; injection h0 with h0; cases h0
  · subst hg; injection hv with hv; injection hv with hv; injection hv with hv; subst hv; exact ⟨cur, hb⟩
theorem Vec.lt {w : World} {e : TypeId} {k : Nat} {a : Option Addr} {n c : Nat} {f : Nat → Nat → Value} (h : Vec w e k a n c f) {g : Nat} (hg : a = some ⟨g, 0, none⟩) : g < w.heap.size := by
  obtain ⟨cur, hb⟩ := h.block_ty hg; exact heap_lt hb
theorem grown_keep {w w' : World} {a : Option Addr} {n c : Nat} (h : w.grownBy w' (Value.slice a n c).ownBlock) : Keep (fun b => ∃ o s, a = some ⟨b, o, s⟩) w w' :=
  ⟨h.os, h.tape, h.output, h.size, fun i hi hn => h.block i hi (fun e => by
    cases a with
    | none => simp [Value.ownBlock] at e
    | some x => simp [Value.ownBlock] at e; exact hn ⟨x.off, x.spot, by subst e; rfl⟩)⟩
theorem Vec.plain {w : World} {e : TypeId} {k : Nat} {a : Option Addr} {n c : Nat} {f : Nat → Nat → Value} (h : Vec w e k a n c f) {b o : Nat} {s : Option Nat} (ha : a = some ⟨b, o, s⟩) : a = some ⟨b, 0, none⟩ := by
  rcases h.own.2 with ⟨h0, _⟩ | ⟨g', cap, cur, hv, _⟩
  · subst ha; injection h0 with h0; cases h0
  · injection hv with hv; subst ha; injection hv with hv; rw [hv]; injection hv with hv; subst hv; rfl
/-- One cell is set. -/
theorem Vec.set {w : World} {e : TypeId} {k : Nat} {n c : Nat} {f : Nat → Nat → Value} {g : Nat} (h : Vec w e k (some ⟨g, 0, none⟩) n c f) (i d : Nat) (x : Value) (hi : i < n) (hd : d < k) : Vec (w.setCell ⟨g, i * k + d, none⟩ x) e k (some ⟨g, 0, none⟩) n c (fun j b => if j = i ∧ b = d then x else f j b) := by
  have hk : 0 < k := by omega
  have hlt : i * k + d < n * k := by
    have : (i + 1) * k ≤ n * k := Nat.mul_le_mul_right k hi
    rw [Nat.add_mul, Nat.one_mul] at this; omega
  refine ⟨by rw [rowK_len], ?_⟩
  rcases h.own.2 with ⟨h0, _⟩ | ⟨g', cap, cur, hv, h1, hb, hle, hm, hsz, ht⟩
  · injection h0 with h0; cases h0
  · injection hv with hv hn hc
    injection hv with hv
    injection hv with hv
    subst hv hc
    refine .inr ⟨g, c, cur.setIfInBounds (i * k + d) x, rfl, h1, heap_set w g _ x _ _ hb, hle, hm, by simpa using hsz, ?_⟩
    apply List.ext_getElem?
    intro j
    by_cases hj : j < n * k
    · rw [List.getElem?_take_of_lt hj, rowK_at _ _ _ _ hj]
      have h2 : (cur.toList.take (n * k))[j]? = (rowK n k f)[j]? := by rw [ht]
      rw [List.getElem?_take_of_lt hj, rowK_at _ _ _ _ hj] at h2
      have hcs : j < cur.size := by
        have : n * k ≤ c * k := Nat.mul_le_mul_right k hle
        omega
      by_cases e : j = i * k + d
      · subst e
        have e1 : (i * k + d) / k = i := by rw [Nat.mul_comm, Nat.mul_add_div hk, Nat.div_eq_of_lt hd]; rfl
        have e2 : (i * k + d) % k = d := by rw [Nat.add_comm, Nat.add_mul_mod_self_right]; exact Nat.mod_eq_of_lt hd
        simp [e1, e2, hcs]
      · have hne : ¬ (j / k = i ∧ j % k = d) := fun ⟨q1, q2⟩ => e (by
          have := Nat.div_add_mod j k
          rw [q1, q2, Nat.mul_comm] at this; omega)
        have e' : i * k + d ≠ j := fun q => e q.symm
        simp only [hne, if_false]
        rw [← h2]
        simp [e']
    · rw [List.getElem?_eq_none (by rw [List.length_take]; omega), List.getElem?_eq_none (by rw [rowK_len]; omega)]
/-- A made row. -/
theorem Vec.made (w : World) (e : TypeId) (k n : Nat) (cur : Array Value) (f : Nat → Nat → Value) (hsz : cur.size = n * k) (hn : n ≤ maxLen) (hf : ∀ j, j < n * k → cur[j]? = some (f (j / k) (j % k))) : Vec (w.alloc (.cells cur e)) e k (some ⟨w.heap.size, 0, none⟩) n n f := by
  refine ⟨by rw [rowK_len], .inr ⟨w.heap.size, n, cur, rfl, Nat.zero_le _, heap_alloc_new w _, Nat.le_refl _, hn, hsz, ?_⟩⟩
  apply List.ext_getElem?
  intro j
  by_cases hj : j < n * k
  · rw [List.getElem?_take_of_lt hj, rowK_at _ _ _ _ hj]
    have := hf j hj
    simpa using this
  · rw [List.getElem?_eq_none (by rw [List.length_take]; omega), List.getElem?_eq_none (by rw [rowK_len]; omega)]

section
variable {ops : Array Oper} {rest : List Oper} {o : Oper} {ac : Act} {Q : Exit → Act → World → Prop}
/-- 'append(v, y)', one element. -/
theorem wpList_push (w : World) (hgd : o.guard = none) (s x : Operand) (t : TypeId) (ho : o.op = .call { callee := .builtin .append, args := #[s, x], argTypes := #[t, t] })
    (e : TypeId) (k bytes : Nat) (z : Value) (ht : Ybaz.prog.underlying t = some (.slice e)) (hinf : ∃ i, Ybaz.prog.info? e = some i ∧ i.zero = some z ∧ i.size = k ∧ i.bytes = bytes) (hzs : z.cells.size = k) (hk : 0 < k) (hby : bytes ≤ 1024)
    (a : Option Addr) (n c : Nat) (f : Nat → Nat → Value) (hs : ac.eval s = .slice a n c) (hv : Vec w e k a n c f) (ad : Addr) (c' : Nat) (hx : ac.eval x = .slice (some ad) 1 c') (y : Nat → Value) (hnews : ∀ j, j < k → w.cell? (ad.add j) = some (y j)) (h1 : ∀ j, j < k → (y j).oneCell' = true) (hn : n ≤ 100000000)
    (h : ∀ g cap w', Vec w' e k (some ⟨g, 0, none⟩) (n + 1) cap (push n f y) → Keep (fun b => a = some ⟨b, 0, none⟩) w w' → (a = some ⟨g, 0, none⟩ ∨ g = w.heap.size) → g < w'.heap.size → wpList Ybaz.prog ops Q rest (ac.put o.dst (.slice (some ⟨g, 0, none⟩) (n + 1) cap)) w') : wpList Ybaz.prog ops Q (o :: rest) ac w := by
  obtain ⟨i, hi, hz, hsize, hb⟩ := hinf
  refine wpList_append_lies w hgd s x t ho 0 e i z k bytes ht hi hz hsize hb hzs hk _ n _ hs hv.own ad 1 c' ((List.range k).map y) hx (by simp) (fun j u hu => ?_) (fun u hu => ?_) (by omega) (by unfold maxLen; omega) ?_ (Nat.zero_le _) w.heap.size rfl ?_
  · have hj : j < k := by have := (List.getElem?_eq_some_iff.1 hu).1; simpa using this
    rw [hnews j hj]; simpa [hj] using hu
  · simp only [List.mem_map] at hu
    obtain ⟨j, hj, rfl⟩ := hu
    exact h1 j (by simpa using hj)
  · have : (n + 1) * bytes ≤ 100000001 * 1024 := Nat.mul_le_mul (by omega) hby
    omega
  · intro g cap w' h2 h3 h4 h5
    refine h g cap w' ⟨by rw [rowK_push n k f y hk]; exact h2⟩ ((grown_keep h3).wide fun b ⟨o, s, e⟩ => hv.plain e) ?_ h5
    rcases h4 with h4 | h4
    · left
      cases a with
      | none => simp [Value.ownBlock] at h4
      | some q => simp [Value.ownBlock] at h4; exact hv.plain (by subst h4; rfl)
    · exact .inr h4
/-- The same at a step of a region that draws its order. -/
theorem step_push {K : Act → World → Prop} {E : Prop} (w : World) (hgd : o.guard = none) (s x : Operand) (t : TypeId) (ho : o.op = .call { callee := .builtin .append, args := #[s, x], argTypes := #[t, t] })
    (e : TypeId) (k bytes : Nat) (z : Value) (ht : Ybaz.prog.underlying t = some (.slice e)) (hinf : ∃ i, Ybaz.prog.info? e = some i ∧ i.zero = some z ∧ i.size = k ∧ i.bytes = bytes) (hzs : z.cells.size = k) (hk : 0 < k) (hby : bytes ≤ 1024)
    (a : Option Addr) (n c : Nat) (f : Nat → Nat → Value) (hs : ac.eval s = .slice a n c) (hv : Vec w e k a n c f) (ad : Addr) (c' : Nat) (hx : ac.eval x = .slice (some ad) 1 c') (y : Nat → Value) (hnews : ∀ j, j < k → w.cell? (ad.add j) = some (y j)) (h1 : ∀ j, j < k → (y j).oneCell' = true) (hn : n ≤ 100000000)
    (h : ∀ g cap w', Vec w' e k (some ⟨g, 0, none⟩) (n + 1) cap (push n f y) → Keep (fun b => a = some ⟨b, 0, none⟩) w w' → (a = some ⟨g, 0, none⟩ ∨ g = w.heap.size) → g < w'.heap.size → K (ac.put o.dst (.slice (some ⟨g, 0, none⟩) (n + 1) cap)) w') :
    if Region.wanted o (yielded ops ac.tmps) = true then Oper.wp Ybaz.prog o ac w K Q else E := by
  obtain ⟨i, hi, hz, hsize, hb⟩ := hinf
  refine step_append_lies w hgd s x t ho 0 e i z k bytes ht hi hz hsize hb hzs hk _ n _ hs hv.own ad 1 c' ((List.range k).map y) hx (by simp) (fun j u hu => ?_) (fun u hu => ?_) (by omega) (by unfold maxLen; omega) ?_ (Nat.zero_le _) w.heap.size rfl ?_
  · have hj : j < k := by have := (List.getElem?_eq_some_iff.1 hu).1; simpa using this
    rw [hnews j hj]; simpa [hj] using hu
  · simp only [List.mem_map] at hu
    obtain ⟨j, hj, rfl⟩ := hu
    exact h1 j (by simpa using hj)
  · have : (n + 1) * bytes ≤ 100000001 * 1024 := Nat.mul_le_mul (by omega) hby
    omega
  · intro g cap w' h2 h3 h4 h5
    refine h g cap w' ⟨by rw [rowK_push n k f y hk]; exact h2⟩ ((grown_keep h3).wide fun b ⟨o, s, e⟩ => hv.plain e) ?_ h5
    rcases h4 with h4 | h4
    · left
      cases a with
      | none => simp [Value.ownBlock] at h4
      | some q => simp [Value.ownBlock] at h4; exact hv.plain (by subst h4; rfl)
    · exact .inr h4
/-- 'append(v, y0, y1)', two elements of one cell. -/
theorem wpList_push2 (w : World) (hgd : o.guard = none) (s x : Operand) (t : TypeId) (ho : o.op = .call { callee := .builtin .append, args := #[s, x], argTypes := #[t, t] })
    (e : TypeId) (bytes : Nat) (z : Value) (ht : Ybaz.prog.underlying t = some (.slice e)) (hinf : ∃ i, Ybaz.prog.info? e = some i ∧ i.zero = some z ∧ i.size = 1 ∧ i.bytes = bytes) (hzs : z.cells.size = 1) (hby : bytes ≤ 1024)
    (a : Option Addr) (n c : Nat) (f : Nat → Nat → Value) (hs : ac.eval s = .slice a n c) (hv : Vec w e 1 a n c f) (ad : Addr) (c' : Nat) (hx : ac.eval x = .slice (some ad) 2 c') (y0 y1 : Value) (h0 : w.cell? ad = some y0) (h1 : w.cell? (ad.add 1) = some y1) (g0 : y0.oneCell' = true) (g1 : y1.oneCell' = true) (hn : n ≤ 100000000)
    (h : ∀ g cap w', Vec w' e 1 (some ⟨g, 0, none⟩) (n + 2) cap (push (n + 1) (push n f (fun _ => y0)) (fun _ => y1)) → Keep (fun b => a = some ⟨b, 0, none⟩) w w' → (a = some ⟨g, 0, none⟩ ∨ g = w.heap.size) → g < w'.heap.size → wpList Ybaz.prog ops Q rest (ac.put o.dst (.slice (some ⟨g, 0, none⟩) (n + 2) cap)) w') : wpList Ybaz.prog ops Q (o :: rest) ac w := by
  obtain ⟨i, hi, hz, hsize, hb⟩ := hinf
  refine wpList_append_lies w hgd s x t ho 0 e i z 1 bytes ht hi hz hsize hb hzs (by omega) _ n _ hs hv.own ad 2 c' [y0, y1] hx rfl (fun j u hu => ?_) (fun u hu => ?_) (by omega) (by unfold maxLen; omega) ?_ (Nat.zero_le _) w.heap.size rfl ?_
  · match j, hu with
    | 0, hu => simp at hu; subst hu; simpa [Addr.add] using h0
    | 1, hu => simp at hu; subst hu; exact h1
  · simp at hu
    rcases hu with rfl | rfl
    · exact g0
    · exact g1
  · have : (n + 2) * bytes ≤ 100000002 * 1024 := Nat.mul_le_mul (by omega) hby
    omega
  · intro g cap w' h2 h3 h4 h5
    refine h g cap w' ⟨?_⟩ ((grown_keep h3).wide fun b ⟨o, s, e⟩ => hv.plain e) ?_ h5
    · rw [rowK_push (n + 1) 1 _ _ (by omega), rowK_push n 1 _ _ (by omega)]
      simpa using h2
    rcases h4 with h4 | h4
    · left
      cases a with
      | none => simp [Value.ownBlock] at h4
      | some q => simp [Value.ownBlock] at h4; exact hv.plain (by subst h4; rfl)
    · exact .inr h4
end
theorem Vec.alloc {w : World} {e : TypeId} {k : Nat} {a : Option Addr} {n c : Nat} {f : Nat → Nat → Value} (h : Vec w e k a n c f) (o : Obj) : Vec (w.alloc o) e k a n c f := h.keep (Keep.alloc (fun _ => False) w o) (fun _ _ h => h)
theorem new1 (w : World) (x : Value) (t : TypeId) : ∀ j, j < 1 → (w.alloc (.cells #[x] t)).cell? ((⟨w.heap.size, 0, none⟩ : Addr).add j) = some x := fun j hj => by
  have : j = 0 := by omega
  subst this
  rw [add_none]; exact World.cell?_alloc_at _ _ _ _ rfl
/-- Behind 'x.f = append(x.f, ..)', or 'v = append(v, ..)' where v lies in a block: x (or v) lies in block G, the field in its cell i. -/
theorem field_push {wr w2 : World} {G i g n cap k : Nat} {gs : Array Value} {tg e : TypeId} {a : Option Addr} {o : Obj} {f : Nat → Nat → Value} (hG : wr.heap[G]? = some (.cells gs tg)) (hv2 : Vec w2 e k (some ⟨g, 0, none⟩) n cap f) (hk2 : Keep (fun b => a = some ⟨b, 0, none⟩) (wr.alloc o) w2) (hg2 : a = some ⟨g, 0, none⟩ ∨ g = (wr.alloc o).heap.size) (hna : ¬ a = some ⟨G, 0, none⟩) :
    (w2.setCell ⟨G, i, none⟩ (.slice (some ⟨g, 0, none⟩) n cap)).heap[G]? = some (.cells (gs.setIfInBounds i (.slice (some ⟨g, 0, none⟩) n cap)) tg) ∧ Vec (w2.setCell ⟨G, i, none⟩ (.slice (some ⟨g, 0, none⟩) n cap)) e k (some ⟨g, 0, none⟩) n cap f ∧
      Keep (fun b => b = G ∨ a = some ⟨b, 0, none⟩) wr (w2.setCell ⟨G, i, none⟩ (.slice (some ⟨g, 0, none⟩) n cap)) ∧ g ≠ G ∧ (a = some ⟨g, 0, none⟩ ∨ wr.heap.size ≤ g) := by
  have hgG : g ≠ G := by
    rcases hg2 with h | h
    · intro e; subst e; exact hna h
    · have := heap_lt hG; simp at h; omega
  refine ⟨heap_set w2 G i _ _ _ (hk2.at (heap_grow _ hG) hna), hv2.keep (Keep.setCell w2 ⟨G, i, none⟩ _) (fun b hb => by injection hb with hb; injection hb with hb; show ¬ b = G; omega), ((Keep.alloc (fun b => b = G ∨ a = some ⟨b, 0, none⟩) wr _).trans hk2 (fun _ h => .inl (.inr h))).trans (Keep.setCell w2 ⟨G, i, none⟩ _) (fun _ h => .inl (.inl h)), hgG, ?_⟩
  rcases hg2 with h | h
  · exact .inl h
  · simp at h; exact .inr (by omega)
theorem Vec.apart {w : World} {e e' : TypeId} {k k' : Nat} {a a' : Option Addr} {n n' c c' : Nat} {f f' : Nat → Nat → Value} (h : Vec w e k a n c f) (h' : Vec w e' k' a' n' c' f') (he : e ≠ e') {b : Nat} (hb : a = some ⟨b, 0, none⟩) : ¬ a' = some ⟨b, 0, none⟩ := fun hb' => by
  obtain ⟨c1, h1⟩ := h.block_ty hb
  obtain ⟨c2, h2⟩ := h'.block_ty hb'
  exact ne_of_types h1 h2 he rfl
theorem Vec.off {w : World} {e tg : TypeId} {k : Nat} {a : Option Addr} {n c G : Nat} {f : Nat → Nat → Value} {gs : Array Value} (h : Vec w e k a n c f) (hG : w.heap[G]? = some (.cells gs tg)) (he : e ≠ tg) : ¬ a = some ⟨G, 0, none⟩ := fun hb => by
  obtain ⟨c1, h1⟩ := h.block_ty hb
  exact ne_of_types h1 hG he rfl
/-- A fact on the table of types. -/
theorem inf_of {t : TypeId} {z : Value} {k b : Nat} (h : (Ybaz.prog.info? t).map (fun i => (i.zero, i.size, i.bytes)) = some (some z, k, b)) : ∃ i, Ybaz.prog.info? t = some i ∧ i.zero = some z ∧ i.size = k ∧ i.bytes = b := by
  cases hi : Ybaz.prog.info? t with
  | none => rw [hi] at h; simp at h
  | some i => rw [hi] at h; simp at h; exact ⟨i, rfl, h.1, h.2.1, h.2.2⟩
theorem inf21 : ∃ i, Ybaz.prog.info? 21 = some i ∧ i.zero = some (.int .i32 0) ∧ i.size = 1 ∧ i.bytes = 4 := inf_of (by kernel_rfl)
theorem inf3 : ∃ i, Ybaz.prog.info? 3 = some i ∧ i.zero = some (.int .i64 0) ∧ i.size = 1 ∧ i.bytes = 8 := inf_of (by kernel_rfl)
theorem inf4 : ∃ i, Ybaz.prog.info? 4 = some i ∧ i.zero = some (.bool false) ∧ i.size = 1 ∧ i.bytes = 1 := inf_of (by kernel_rfl)
theorem inf31 : ∃ i, Ybaz.prog.info? 31 = some i ∧ i.zero = some (.int .u64 0) ∧ i.size = 1 ∧ i.bytes = 8 := inf_of (by kernel_rfl)
theorem inf96 : ∃ i, Ybaz.prog.info? 96 = some i ∧ i.zero = some (.int .u8 0) ∧ i.size = 1 ∧ i.bytes = 1 := inf_of (by kernel_rfl)
theorem inf9 : ∃ i, Ybaz.prog.info? 9 = some i ∧ i.zero = some (.string ⟨#[]⟩) ∧ i.size = 1 ∧ i.bytes = 16 := inf_of (by kernel_rfl)

/-- n zeros of a type whose zero is z, k cells each. -/
def mc (z : Value) (k n : Nat) : Array Value := madeCells z.cells (n * k)
/-- 'make([]T, n)', shut. -/
def opMk (t : TypeId) (l c : Value) : Sem Next := do pure (.value (← Instr.makeSlice t l c))
theorem run_mkv (t e : TypeId) (z : Value) (k b : Nat) (ht : Ybaz.prog.underlying t = some (.slice e)) (hinf : ∃ i, Ybaz.prog.info? e = some i ∧ i.zero = some z ∧ i.size = k ∧ i.bytes = b) (hb : b ≤ 1024) (w : World) (n : Nat) (hn : n ≤ 2097152) :
    (opMk t (.int .i64 n) (.int .i64 n)).run Ybaz.prog w = .ok (.value (.slice (some ⟨w.heap.size, 0, none⟩) n n)) (w.alloc (.cells (mc z k n) e)) := by
  obtain ⟨i, hi, hz', hs, hb'⟩ := hinf
  have hbn : ((i.bytes : Nat) : Int) * (n : Int) ≤ 281474976710656 := by
    have : i.bytes * n ≤ 1024 * 2097152 := Nat.mul_le_mul (by omega) hn
    have h2 : ((i.bytes * n : Nat) : Int) ≤ 281474976710656 := by omega
    rwa [Int.natCast_mul] at h2
  have h := run_make (P := Ybaz.prog) w t e i _ ht hi hz' .i64 .i64 n n (by omega) (Int.le_refl _) hbn (by omega)
  unfold opMk
  rw [Sem.run_bind, h, hs]
  simp [mc]
theorem mc_at (z : Value) (k n j : Nat) (hk : z.cells.size = k) (hj : j < n * k) : (mc z k n)[j]? = some z.cells[j % k]! := by
  unfold mc madeCells
  simp only [Array.getElem?_map, Array.getElem?_range, hj, if_true, Option.map_some, hk]
theorem mc_size (z : Value) (k n : Nat) : (mc z k n).size = n * k := by unfold mc; rw [size_madeCells]
theorem Vec.mk1 (w : World) (e : TypeId) (z : Value) (n : Nat) (hz : z.cells = #[z]) (hn : n ≤ 2097152) : Vec (w.alloc (.cells (mc z 1 n) e)) e 1 (some ⟨w.heap.size, 0, none⟩) n n (fun _ _ => z) := by
  refine Vec.made w e 1 n _ _ (mc_size z 1 n) (by unfold maxLen; omega) fun j hj => ?_
  rw [mc_at z 1 n j (by rw [hz]; rfl) hj, hz, Nat.mod_one]
  rfl
section
variable (ρ : Operand → Value) (dst : Option Tmp) (x y : Operand) (ty : TypeId) (pos : String) (after : Array Edge) (guard : Option (Nat × Bool))
theorem exec_make95 : execOp ρ { dst, op := .makeSlice 95 x y, type := ty, pos, after, guard } = opMk 95 (ρ x) (ρ y) := rfl
theorem exec_make155 : execOp ρ { dst, op := .makeSlice 155 x y, type := ty, pos, after, guard } = opMk 155 (ρ x) (ρ y) := rfl
theorem exec_make62 : execOp ρ { dst, op := .makeSlice 62 x y, type := ty, pos, after, guard } = opMk 62 (ρ x) (ρ y) := rfl
theorem exec_make86 : execOp ρ { dst, op := .makeSlice 86 x y, type := ty, pos, after, guard } = opMk 86 (ρ x) (ρ y) := rfl
theorem exec_make63 : execOp ρ { dst, op := .makeSlice 63 x y, type := ty, pos, after, guard } = opMk 63 (ρ x) (ρ y) := rfl
end
end Go.Proofs.YbulkdvbsGreat

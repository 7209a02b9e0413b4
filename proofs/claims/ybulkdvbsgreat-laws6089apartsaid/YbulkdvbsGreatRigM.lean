/-
  rigorous: what lies in memory between two operations.
-/
import Derived.Test.YbulkdvbsGreatRig
import Derived.Test.YbulkdvbsGreatSteps
namespace Go.Proofs.YbulkdvbsGreat

/-- The open transactions, as the map holds them. -/
def ptF (bt : Nat → Option Nat) : Int → Option Value := fun x => if 0 ≤ x then (bt x.toNat).map (fun (b : Nat) => Value.pointer (some ⟨b, 0, none⟩)) else none
theorem ptF_at (bt : Nat → Option Nat) (t : Nat) : ptF bt (t : Int) = (bt t).map (fun (b : Nat) => Value.pointer (some ⟨b, 0, none⟩)) := by simp [ptF]
theorem ptF_put (bt : Nat → Option Nat) (t b : Nat) : (fun z => if z = (t : Int) then some (Value.pointer (some ⟨b, 0, none⟩)) else ptF bt z) = ptF (put1 bt t (some b)) := by
  funext z
  unfold ptF put1
  by_cases e : z = (t : Int)
  · subst e; simp
  · by_cases h0 : 0 ≤ z
    · have : ¬ z.toNat = t := by omega
      simp [e, h0, this]
    · simp [e, h0]
theorem ptF_del (bt : Nat → Option Nat) (t : Nat) : (fun z => if z = (t : Int) then none else ptF bt z) = ptF (put1 bt t none) := by
  funext z
  unfold ptF put1
  by_cases e : z = (t : Int)
  · subst e; simp
  · by_cases h0 : 0 ≤ z
    · have : ¬ z.toNat = t := by omega
      simp [e, h0, this]
    · simp [e, h0]
/-- The keys written, the runs read, as cells. -/
def wcell (W : List Nat) : Nat → Nat → Value := fun i _ => .int .i64 ((W.getD i 0 : Nat) : Int)
def rcell (R : List Nat) : Nat → Nat → Value := fun i c => .int .i64 ((R.getD i 0 : Nat) + (c : Nat) : Int)
theorem wcell_push (W : List Nat) (x : Nat) : ∀ i c, i < W.length + 1 → c < 1 → push W.length (wcell W) (fun _ => .int .i64 (x : Int)) i c = wcell (W ++ [x]) i c := fun i c hi _ => by
  unfold push wcell
  by_cases e : i = W.length
  · simp [e]
  · have : i < W.length := by omega
    simp [e, List.getD_eq_getElem?_getD, List.getElem?_append_left this]
theorem rcell_push (R : List Nat) (x : Nat) : ∀ i c, i < R.length + 1 → c < 2 → push R.length (rcell R) (fun c => .int .i64 ((x : Nat) + (c : Nat) : Int)) i c = rcell (R ++ [x]) i c := fun i c hi _ => by
  unfold push rcell
  by_cases e : i = R.length
  · simp [e]
  · have : i < R.length := by omega
    simp [e, List.getD_eq_getElem?_getD, List.getElem?_append_left this]
/-- One open transaction, in block b. -/
structure OpenS (w : World) (b id : Nat) (W R : List Nat) (wa : Option Addr) (wc : Nat) (ra : Option Addr) (rc : Nat) : Prop where
  blk : w.heap[b]? = some (.cells #[.int .i64 (id : Int), .slice wa W.length wc, .slice ra R.length rc] 124)
  wv : Vec w 3 1 wa W.length wc (wcell W)
  rv : Vec w 126 2 ra R.length rc (rcell R)
theorem OpenS.keep {w w' : World} {b id : Nat} {W R : List Nat} {wa : Option Addr} {wc : Nat} {ra : Option Addr} {rc : Nat} (h : OpenS w b id W R wa wc ra rc) {F : Nat → Prop} (k : Keep F w w') (h1 : ¬ F b) (h2 : ∀ g, wa = some ⟨g, 0, none⟩ → ¬ F g) (h3 : ∀ g, ra = some ⟨g, 0, none⟩ → ¬ F g) : OpenS w' b id W R wa wc ra rc :=
  ⟨k.at h.blk h1, h.wv.keep k h2, h.rv.keep k h3⟩

/-- What lies in memory ahead of an operation: cls tells whose a block is. -/
structure RM (w0 : World) (LB LO HI RB CB TM m mn mn2 : Nat) (cls : Nat → Nat) (idf : Nat → Nat) (W R : Nat → List Nat) (own : Nat → Nat) (ct : Nat → Nat → Nat) (cm : Nat → Option Nat) (bt : Nat → Option Nat) (sw sr : Nat → Option Addr × Nat) (w : World) : Prop where
  k : Keep (fun _ => False) w0 w
  new : ∀ b, cls b ≠ 0 → w0.heap.size ≤ b ∧ b < w.heap.size
  cLB : cls LB = 1
  cRB : cls RB = 2
  cLO : cls LO = 3
  cHI : cls HI = 3
  cO : ∀ b, oB CB m cm b → cls b = 4
  cT : cls TM = 5
  lw : LWt w LB LO HI m own
  od : ORd w RB CB m mn cm ct
  mp : MP w 31 TM mn2 (intM .u64 (ptF bt))
  bi : ∀ t, bt t = none ↔ idf t = 0
  st : ∀ t b, bt t = some b → OpenS w b (idf t) (W t) (R t) (sw t).1 (sw t).2 (sr t).1 (sr t).2
  cB : ∀ t b, bt t = some b → cls b = 10 + 4 * t
  cW : ∀ t b g, bt t = some b → (sw t).1 = some ⟨g, 0, none⟩ → cls g = 11 + 4 * t
  cR : ∀ t b g, bt t = some b → (sr t).1 = some ⟨g, 0, none⟩ → cls g = 12 + 4 * t
section
variable {w0 w w' : World} {LB LO HI RB CB TM m mn mn2 : Nat} {cls : Nat → Nat} {idf : Nat → Nat} {W R : Nat → List Nat} {own : Nat → Nat} {ct : Nat → Nat → Nat} {cm bt : Nat → Option Nat} {sw sr : Nat → Option Addr × Nat}
/-- A block that is not ours is old, or not yet there; what turns is ours: the old is kept. -/
theorem RM.keep0 (h : RM w0 LB LO HI RB CB TM m mn mn2 cls idf W R own ct cm bt sw sr w) {F : Nat → Prop} (k : Keep F w w') (hF : ∀ b, F b → cls b ≠ 0 ∨ w0.heap.size ≤ b) : Keep (fun _ => False) w0 w' :=
  h.k.trans k (fun b q => .inr (by rcases hF b q with r | r; exact (h.new b r).1; exact r))
theorem RM.quiet (h : RM w0 LB LO HI RB CB TM m mn mn2 cls idf W R own ct cm bt sw sr w) (k : Keep (fun _ => False) w w') : RM w0 LB LO HI RB CB TM m mn mn2 cls idf W R own ct cm bt sw sr w' :=
  { h with
    k := h.keep0 k (fun _ q => q.elim)
    new := fun b q => ⟨(h.new b q).1, Nat.lt_of_lt_of_le (h.new b q).2 k.size⟩
    lw := h.lw.keep k id id id
    od := h.od.keep k id (fun _ _ => id)
    mp := h.mp.keep k id
    st := fun t b q => (h.st t b q).keep k id (fun _ _ => id) (fun _ _ => id) }
/-- Behind lastWriters.set. -/
theorem RM.setOwn (h : RM w0 LB LO HI RB CB TM m mn mn2 cls idf W R own ct cm bt sw sr w) {own' : Nat → Nat} (e : LWend w w' LB LO HI m own') : RM w0 LB LO HI RB CB TM m mn mn2 cls idf W R own' ct cm bt sw sr w' := by
  obtain ⟨l, k⟩ := e
  have c3 : ∀ b, (b = LO ∨ b = HI) → cls b = 3 := fun b q => by rcases q with rfl | rfl; exact h.cLO; exact h.cHI
  exact { h with
    k := h.keep0 k (fun b q => .inl (by rw [c3 b q]; omega))
    new := fun b q => ⟨(h.new b q).1, Nat.lt_of_lt_of_le (h.new b q).2 k.size⟩
    lw := l
    od := h.od.keep k (fun q => by have := c3 _ q; have := h.cRB; omega) (fun b hb q => by have := c3 _ q; have := h.cO b hb; omega)
    mp := h.mp.keep k (fun q => by have := c3 _ q; have := h.cT; omega)
    st := fun t b q => (h.st t b q).keep k (fun r => by have := c3 _ r; have := h.cB t b q; omega) (fun g hg r => by have := c3 _ r; have := h.cW t b g q hg; omega) (fun g hg r => by have := c3 _ r; have := h.cR t b g q hg; omega) }
/-- New blocks go to the reads. -/
def clsN (cls : Nat → Nat) (a b : Nat) : Nat → Nat := fun x => if a ≤ x ∧ x < b then 4 else cls x
/-- Behind openReads.add. -/
theorem RM.rd (h : RM w0 LB LO HI RB CB TM m mn mn2 cls idf W R own ct cm bt sw sr w) {mn' : Nat} {ct' : Nat → Nat → Nat} (e : ORend w w' RB CB m mn' cm ct') : ∃ cls' cm', RM w0 LB LO HI RB CB TM m mn' mn2 cls' idf W R own ct' cm' bt sw sr w' := by
  obtain ⟨cm', o, k, hn⟩ := e
  have old : ∀ b, cls b ≠ 0 → clsN cls w.heap.size w'.heap.size b = cls b := fun b q => by
    have := (h.new b q).2
    unfold clsN
    rw [if_neg (by omega)]
  refine ⟨clsN cls w.heap.size w'.heap.size, cm', ?_⟩
  exact { h with
    k := h.keep0 k (fun b q => .inl (by rw [h.cO b q]; omega))
    new := fun b q => by
      have hs := k.size
      have h0 := h.k.size
      by_cases e : w.heap.size ≤ b ∧ b < w'.heap.size
      · omega
      · unfold clsN at q
        rw [if_neg e] at q
        have := h.new b q
        omega
    cLB := by rw [old _ (by rw [h.cLB]; omega)]; exact h.cLB
    cRB := by rw [old _ (by rw [h.cRB]; omega)]; exact h.cRB
    cLO := by rw [old _ (by rw [h.cLO]; omega)]; exact h.cLO
    cHI := by rw [old _ (by rw [h.cHI]; omega)]; exact h.cHI
    cO := fun b hb => by
      rcases hn b hb with q | q
      · rw [old _ (by rw [h.cO b q]; omega)]; exact h.cO b q
      · unfold clsN; rw [if_pos q]
    cT := by rw [old _ (by rw [h.cT]; omega)]; exact h.cT
    lw := h.lw.keep k (fun q => by have := h.cO _ q; have := h.cLB; omega) (fun q => by have := h.cO _ q; have := h.cLO; omega) (fun q => by have := h.cO _ q; have := h.cHI; omega)
    od := o
    mp := h.mp.keep k (fun q => by have := h.cO _ q; have := h.cT; omega)
    st := fun t b q => (h.st t b q).keep k (fun r => by have := h.cO _ r; have := h.cB t b q; omega) (fun g hg r => by have := h.cO _ r; have := h.cW t b g q hg; omega) (fun g hg r => by have := h.cO _ r; have := h.cR t b g q hg; omega)
    cB := fun t b q => by rw [old _ (by rw [h.cB t b q]; omega)]; exact h.cB t b q
    cW := fun t b g q hg => by rw [old _ (by rw [h.cW t b g q hg]; omega)]; exact h.cW t b g q hg
    cR := fun t b g q hg => by rw [old _ (by rw [h.cR t b g q hg]; omega)]; exact h.cR t b g q hg }
/-- A transaction is opened: its block, made; the map, turned. -/
theorem RM.openT (h : RM w0 LB LO HI RB CB TM m mn mn2 cls idf W R own ct cm bt sw sr w) {t id b : Nat} (hid : id ≠ 0) (hW : W t = []) (hR : R t = []) {w1 : World} (k1 : Keep (fun _ => False) w w1) (hb : w.heap.size ≤ b) (hb1 : w1.heap[b]? = some (.cells #[.int .i64 (id : Int), .slice none 0 0, .slice none 0 0] 124)) (k2 : Keep (fun i => i = TM) w1 w') (hm : MP w' 31 TM (mn2 + 1) (intM .u64 (ptF (put1 bt t (some b))))) :
    RM w0 LB LO HI RB CB TM m mn (mn2 + 1) (put1 cls b (10 + 4 * t)) (put1 idf t id) W R own ct cm (put1 bt t (some b)) (put1 sw t (none, 0)) (put1 sr t (none, 0)) w' := by
  have h1 := h.quiet k1
  have old : ∀ x, cls x ≠ 0 → put1 cls b (10 + 4 * t) x = cls x := fun x q => by
    have := (h.new x q).2
    rw [put1_ne _ _ (by omega)]
  have nT : b ≠ TM := fun e => by have := (h.new TM (by rw [h.cT]; omega)).2; omega
  exact {
    k := h1.keep0 k2 (fun x q => .inl (by rw [q, h.cT]; omega))
    new := fun x q => by
      by_cases e : x = b
      · have := heap_lt hb1; have := k2.size; have := h.k.size; omega
      · rw [put1_ne _ _ e] at q; exact ⟨(h.new x q).1, Nat.lt_of_lt_of_le (h1.new x q).2 k2.size⟩
    cLB := by rw [old _ (by rw [h.cLB]; omega)]; exact h.cLB
    cRB := by rw [old _ (by rw [h.cRB]; omega)]; exact h.cRB
    cLO := by rw [old _ (by rw [h.cLO]; omega)]; exact h.cLO
    cHI := by rw [old _ (by rw [h.cHI]; omega)]; exact h.cHI
    cO := fun x hx => by rw [old _ (by rw [h.cO x hx]; omega)]; exact h.cO x hx
    cT := by rw [old _ (by rw [h.cT]; omega)]; exact h.cT
    lw := h1.lw.keep k2 (fun q => by have := h.cT; have := h.cLB; rw [q] at this; omega) (fun q => by have := h.cT; have := h.cLO; rw [q] at this; omega) (fun q => by have := h.cT; have := h.cHI; rw [q] at this; omega)
    od := h1.od.keep k2 (fun q => by have := h.cT; have := h.cRB; rw [q] at this; omega) (fun x hx q => by have := h.cT; have := h.cO x hx; rw [q] at this; omega)
    mp := hm
    bi := fun s => by
      by_cases e : s = t
      · rw [e, put1_at, put1_at]; simp [hid]
      · rw [put1_ne _ _ e, put1_ne _ _ e]; exact h.bi s
    st := fun s x q => by
      by_cases e : s = t
      · subst e
        rw [put1_at] at q
        injection q with q
        subst q
        rw [put1_at, put1_at, put1_at, hW, hR]
        refine OpenS.keep (F := fun i => i = TM) (w := w1) ⟨hb1, ?_, ?_⟩ k2 nT (fun g hg => by simp at hg) (fun g hg => by simp at hg)
        · exact Vec.nil w1 3 1 _
        · exact Vec.nil w1 126 2 _
      · rw [put1_ne _ _ e] at q
        rw [put1_ne _ _ e, put1_ne _ _ e, put1_ne _ _ e]
        exact (h1.st s x q).keep k2 (fun r => by have := h.cT; have := h.cB s x q; rw [r] at this; omega) (fun g hg r => by have := h.cT; have := h.cW s x g q hg; rw [r] at this; omega) (fun g hg r => by have := h.cT; have := h.cR s x g q hg; rw [r] at this; omega)
    cB := fun s x q => by
      by_cases e : s = t
      · subst e
        rw [put1_at] at q
        injection q with q
        rw [← q, put1_at]
      · rw [put1_ne _ _ e] at q
        rw [old _ (by rw [h.cB s x q]; omega)]; exact h.cB s x q
    cW := fun s x g q hg => by
      by_cases e : s = t
      · rw [e, put1_at] at hg; simp at hg
      · rw [put1_ne _ _ e] at q hg
        rw [old _ (by rw [h.cW s x g q hg]; omega)]; exact h.cW s x g q hg
    cR := fun s x g q hg => by
      by_cases e : s = t
      · rw [e, put1_at] at hg; simp at hg
      · rw [put1_ne _ _ e] at q hg
        rw [old _ (by rw [h.cR s x g q hg]; omega)]; exact h.cR s x g q hg }
/-- A transaction is dropped. -/
theorem RM.dropT (h : RM w0 LB LO HI RB CB TM m mn mn2 cls idf W R own ct cm bt sw sr w) {t : Nat} (k2 : Keep (fun i => i = TM) w w') (hm : MP w' 31 TM mn2 (intM .u64 (ptF (put1 bt t none)))) :
    RM w0 LB LO HI RB CB TM m mn mn2 cls (put1 idf t 0) (put1 W t []) (put1 R t []) own ct cm (put1 bt t none) sw sr w' :=
  { h with
    k := h.keep0 k2 (fun x q => .inl (by rw [q, h.cT]; omega))
    new := fun x q => ⟨(h.new x q).1, Nat.lt_of_lt_of_le (h.new x q).2 k2.size⟩
    lw := h.lw.keep k2 (fun q => by have := h.cT; have := h.cLB; rw [q] at this; omega) (fun q => by have := h.cT; have := h.cLO; rw [q] at this; omega) (fun q => by have := h.cT; have := h.cHI; rw [q] at this; omega)
    od := h.od.keep k2 (fun q => by have := h.cT; have := h.cRB; rw [q] at this; omega) (fun x hx q => by have := h.cT; have := h.cO x hx; rw [q] at this; omega)
    mp := hm
    bi := fun s => by
      by_cases e : s = t
      · rw [e, put1_at, put1_at]; simp
      · rw [put1_ne _ _ e, put1_ne _ _ e]; exact h.bi s
    st := fun s x q => by
      by_cases e : s = t
      · rw [e, put1_at] at q; simp at q
      · rw [put1_ne _ _ e] at q
        rw [put1_ne _ _ e, put1_ne _ _ e, put1_ne _ _ e]
        exact (h.st s x q).keep k2 (fun r => by have := h.cT; have := h.cB s x q; rw [r] at this; omega) (fun g hg r => by have := h.cT; have := h.cW s x g q hg; rw [r] at this; omega) (fun g hg r => by have := h.cT; have := h.cR s x g q hg; rw [r] at this; omega)
    cB := fun s x q => by
      by_cases e : s = t
      · rw [e, put1_at] at q; simp at q
      · rw [put1_ne _ _ e] at q; exact h.cB s x q
    cW := fun s x g q hg => by
      by_cases e : s = t
      · rw [e, put1_at] at q; simp at q
      · rw [put1_ne _ _ e] at q; exact h.cW s x g q hg
    cR := fun s x g q hg => by
      by_cases e : s = t
      · rw [e, put1_at] at q; simp at q
      · rw [put1_ne _ _ e] at q; exact h.cR s x g q hg }

/-- One more wpush. -/
theorem RM.wpush (h : RM w0 LB LO HI RB CB TM m mn mn2 cls idf W R own ct cm bt sw sr w) {t b x g cap : Nat} (hbt : bt t = some b)
    (hb : w'.heap[b]? = some (.cells #[.int .i64 (idf t : Int), .slice (some ⟨g, 0, none⟩) ((W t).length + 1) cap, .slice (sr t).1 (R t).length (sr t).2] 124)) (hv : Vec w' 3 1 (some ⟨g, 0, none⟩) ((W t).length + 1) cap (push (W t).length (wcell (W t)) (fun _ => .int .i64 (x : Int))))
    (k : Keep (fun c => c = b ∨ (sw t).1 = some ⟨c, 0, none⟩) w w') (hg : (sw t).1 = some ⟨g, 0, none⟩ ∨ w.heap.size ≤ g) :
    RM w0 LB LO HI RB CB TM m mn mn2 (put1 cls g (11 + 4 * t)) idf (put1 W t (W t ++ [x])) R own ct cm bt (put1 sw t (some ⟨g, 0, none⟩, cap)) sr w' := by
  have cF : ∀ c, (c = b ∨ (sw t).1 = some ⟨c, 0, none⟩) → cls c = 10 + 4 * t ∨ cls c = 11 + 4 * t := fun c q => by
    rcases q with rfl | q
    · exact .inl (h.cB t _ hbt)
    · exact .inr (h.cW t b c hbt q)
  have old : ∀ c, cls c ≠ 0 → put1 cls g (11 + 4 * t) c = cls c := fun c q => by
    by_cases e : c = g
    · rw [e, put1_at]
      rcases hg with r | r
      · exact (h.cW t b g hbt r).symm
      · have := (h.new c q).2; omega
    · rw [put1_ne _ _ e]
  have hgl := hv.lt rfl
  exact { h with
    k := h.keep0 k (fun c q => .inl (by rcases cF c q with r | r <;> omega))
    new := fun c q => by
      have hs := k.size
      have h0 := h.k.size
      by_cases e : c = g
      · rcases hg with r | r
        · have := h.new g (by rw [h.cW t b g hbt r]; omega)
          omega
        · omega
      · rw [put1_ne _ _ e] at q
        have := h.new c q
        omega
    cLB := by rw [old _ (by rw [h.cLB]; omega)]; exact h.cLB
    cRB := by rw [old _ (by rw [h.cRB]; omega)]; exact h.cRB
    cLO := by rw [old _ (by rw [h.cLO]; omega)]; exact h.cLO
    cHI := by rw [old _ (by rw [h.cHI]; omega)]; exact h.cHI
    cO := fun c hc => by rw [old _ (by rw [h.cO c hc]; omega)]; exact h.cO c hc
    cT := by rw [old _ (by rw [h.cT]; omega)]; exact h.cT
    lw := h.lw.keep k (fun q => by have := cF _ q; have := h.cLB; omega) (fun q => by have := cF _ q; have := h.cLO; omega) (fun q => by have := cF _ q; have := h.cHI; omega)
    od := h.od.keep k (fun q => by have := cF _ q; have := h.cRB; omega) (fun c hc q => by have := cF _ q; have := h.cO c hc; omega)
    mp := h.mp.keep k (fun q => by have := cF _ q; have := h.cT; omega)
    st := fun s c q => by
      by_cases e : s = t
      · subst e
        rw [hbt] at q
        injection q with q
        subst q
        rw [put1_at, put1_at]
        have o := h.st s b hbt
        have hl : (W s ++ [x]).length = (W s).length + 1 := by simp
        exact ⟨by rw [hl]; exact hb, by rw [hl]; exact hv.congr (by omega) (wcell_push (W s) x), o.rv.keep k (fun g' hg' r => by have := cF _ r; have := h.cR s b g' hbt hg'; omega)⟩
      · rw [put1_ne _ _ e, put1_ne _ _ e]
        exact (h.st s c q).keep k (fun r => by have := cF _ r; have := h.cB s c q; omega) (fun g' hg' r => by have := cF _ r; have := h.cW s c g' q hg'; omega) (fun g' hg' r => by have := cF _ r; have := h.cR s c g' q hg'; omega)
    cB := fun s c q => by rw [old _ (by rw [h.cB s c q]; omega)]; exact h.cB s c q
    cW := fun s c g' q hg' => by
      by_cases e : s = t
      · subst e
        rw [put1_at] at hg'
        simp only [Option.some.injEq, Addr.mk.injEq, and_true] at hg'
        rw [← hg', put1_at]
      · rw [put1_ne _ _ e] at hg'
        rw [old _ (by rw [h.cW s c g' q hg']; omega)]; exact h.cW s c g' q hg'
    cR := fun s c g' q hg' => by rw [old _ (by rw [h.cR s c g' q hg']; omega)]; exact h.cR s c g' q hg' }

/-- One more rpush. -/
theorem RM.rpush (h : RM w0 LB LO HI RB CB TM m mn mn2 cls idf W R own ct cm bt sw sr w) {t b x g cap : Nat} (hbt : bt t = some b)
    (hb : w'.heap[b]? = some (.cells #[.int .i64 (idf t : Int), .slice (sw t).1 (W t).length (sw t).2, .slice (some ⟨g, 0, none⟩) ((R t).length + 1) cap] 124)) (hv : Vec w' 126 2 (some ⟨g, 0, none⟩) ((R t).length + 1) cap (push (R t).length (rcell (R t)) (fun c => .int .i64 ((x : Nat) + (c : Nat) : Int))))
    (k : Keep (fun c => c = b ∨ (sr t).1 = some ⟨c, 0, none⟩) w w') (hg : (sr t).1 = some ⟨g, 0, none⟩ ∨ w.heap.size ≤ g) :
    RM w0 LB LO HI RB CB TM m mn mn2 (put1 cls g (12 + 4 * t)) idf W (put1 R t (R t ++ [x])) own ct cm bt sw (put1 sr t (some ⟨g, 0, none⟩, cap)) w' := by
  have cF : ∀ c, (c = b ∨ (sr t).1 = some ⟨c, 0, none⟩) → cls c = 10 + 4 * t ∨ cls c = 12 + 4 * t := fun c q => by
    rcases q with rfl | q
    · exact .inl (h.cB t _ hbt)
    · exact .inr (h.cR t b c hbt q)
  have old : ∀ c, cls c ≠ 0 → put1 cls g (12 + 4 * t) c = cls c := fun c q => by
    by_cases e : c = g
    · rw [e, put1_at]
      rcases hg with r | r
      · exact (h.cR t b g hbt r).symm
      · have := (h.new c q).2; omega
    · rw [put1_ne _ _ e]
  have hgl := hv.lt rfl
  exact { h with
    k := h.keep0 k (fun c q => .inl (by rcases cF c q with r | r <;> omega))
    new := fun c q => by
      have hs := k.size
      have h0 := h.k.size
      by_cases e : c = g
      · rcases hg with r | r
        · have := h.new g (by rw [h.cR t b g hbt r]; omega)
          omega
        · omega
      · rw [put1_ne _ _ e] at q
        have := h.new c q
        omega
    cLB := by rw [old _ (by rw [h.cLB]; omega)]; exact h.cLB
    cRB := by rw [old _ (by rw [h.cRB]; omega)]; exact h.cRB
    cLO := by rw [old _ (by rw [h.cLO]; omega)]; exact h.cLO
    cHI := by rw [old _ (by rw [h.cHI]; omega)]; exact h.cHI
    cO := fun c hc => by rw [old _ (by rw [h.cO c hc]; omega)]; exact h.cO c hc
    cT := by rw [old _ (by rw [h.cT]; omega)]; exact h.cT
    lw := h.lw.keep k (fun q => by have := cF _ q; have := h.cLB; omega) (fun q => by have := cF _ q; have := h.cLO; omega) (fun q => by have := cF _ q; have := h.cHI; omega)
    od := h.od.keep k (fun q => by have := cF _ q; have := h.cRB; omega) (fun c hc q => by have := cF _ q; have := h.cO c hc; omega)
    mp := h.mp.keep k (fun q => by have := cF _ q; have := h.cT; omega)
    st := fun s c q => by
      by_cases e : s = t
      · subst e
        rw [hbt] at q
        injection q with q
        subst q
        rw [put1_at, put1_at]
        have o := h.st s b hbt
        have hl : (R s ++ [x]).length = (R s).length + 1 := by simp
        exact ⟨by rw [hl]; exact hb, o.wv.keep k (fun g' hg' r => by have := cF _ r; have := h.cW s b g' hbt hg'; omega), by rw [hl]; exact hv.congr (by omega) (rcell_push (R s) x)⟩
      · rw [put1_ne _ _ e, put1_ne _ _ e]
        exact (h.st s c q).keep k (fun r => by have := cF _ r; have := h.cB s c q; omega) (fun g' hg' r => by have := cF _ r; have := h.cW s c g' q hg'; omega) (fun g' hg' r => by have := cF _ r; have := h.cR s c g' q hg'; omega)
    cB := fun s c q => by rw [old _ (by rw [h.cB s c q]; omega)]; exact h.cB s c q
    cR := fun s c g' q hg' => by
      by_cases e : s = t
      · subst e
        rw [put1_at] at hg'
        simp only [Option.some.injEq, Addr.mk.injEq, and_true] at hg'
        rw [← hg', put1_at]
      · rw [put1_ne _ _ e] at hg'
        rw [old _ (by rw [h.cR s c g' q hg']; omega)]; exact h.cR s c g' q hg'
    cW := fun s c g' q hg' => by rw [old _ (by rw [h.cW s c g' q hg']; omega)]; exact h.cW s c g' q hg' }
end
end Go.Proofs.YbulkdvbsGreat

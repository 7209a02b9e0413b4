/-
  components, walked.
-/
import Derived.Test.YbulkdvbsGreatReady
import Derived.Test.YbulkdvbsGreatHeap
namespace Go.Proofs.YbulkdvbsGreat
open Go.RowKit
attribute [local go_sem ↓] exec_make155 exec_make95 exec_make86

/-- Edges that are followed. -/
def Fw (first : Nat → Nat) (next kd : Nat → Int) (allow : Int) (x y : Nat) : Prop := ∃ e, first x ≤ e ∧ e < first (x + 1) ∧ fl (kd e) allow = true ∧ next e = (y : Int)
/-- The nodes of one component reach one another inside it. -/
def Conn (n : Nat) (first : Nat → Nat) (next kd : Nat → Int) (allow : Int) (comp : Nat → Int) : Prop := ∀ u v, u < n → v < n → 0 ≤ comp u → comp u = comp v → ∀ R : Nat → Prop, R u → (∀ x y, R x → Fw first next kd allow x y → comp y = comp u → R y) → R v
theorem conn_of {n : Nat} {first : Nat → Nat} {next kd : Nat → Int} {allow : Int} {idx low comp : Nat → Int} {St : Nat → Prop} {sl : Nat} {sk : Nat → Nat} {pl : Nat} {pn : Nat → Nat} {vis c : Nat} (h : TJ n (Fw first next kd allow) idx low comp St sl sk pl pn vis c) : Conn n first next kd allow comp := by
  intro u v hu hv h0 he R hR hcl
  have r := h.cs u v hu hv h0 he
  clear hv he
  exact RIn.ind (P := R) (fun _ => hR) (fun y z _ he hc ih => hcl y z ih he hc) r
/-- The nodes that are looked at. -/
def Am (w : World) (n : Nat) (am : Value) (AM : Nat) (among : Nat → Bool) : Prop := am = .slice none 0 0 ∨ (am = .slice (some ⟨AM, 0, none⟩) n n ∧ Row w AM n (fun i => .bool (among i)) ∧ AM < w.heap.size)
/-- Behind components. -/
def CompOut (w w' : World) (G n E : Nat) (la : Option Addr) (lc : Nat) (ga : Option Addr) (gc FB NX KN : Nat) (ah : Value) (first : Nat → Nat) (next kd : Nat → Int) (ok : Bool) (allow : Int) (e : Ending) : Prop := ∃ (CO : Nat) (comp : Nat → Int), e = .returned (.slice (some ⟨CO, 0, none⟩) n n) ∧ w.heap.size ≤ CO ∧ CO < w'.heap.size ∧ Row w' CO n (fun i => .int .i32 (comp i)) ∧ (∀ i, i < n → -1 ≤ comp i ∧ comp i < n) ∧ Conn n first next kd allow comp ∧ Kept w w' G n E la lc ga gc FB NX KN ah first next kd ok allow
/-- The first rows and boxes. -/
structure C0 (w : World) (bG B G n : Nat) (idx comp : Nat → Int) : Prop where
  g : w.heap[bG]? = some (.cells #[.pointer (some ⟨G, 0, none⟩)] 56)
  bi : w.heap[B + 1]? = some (.cells #[.slice (some ⟨B, 0, none⟩) n n] 95)
  bl : w.heap[B + 3]? = some (.cells #[.slice (some ⟨B + 2, 0, none⟩) n n] 95)
  bo : w.heap[B + 6]? = some (.cells #[.slice (some ⟨B + 5, 0, none⟩) n n] 86)
  ri : Row w B n (fun i => .int .i32 (idx i))
  rl : Row w (B + 2) n (fun _ => .int .i32 0)
  rc : Row w (B + 4) n (fun i => .int .i32 (comp i))
  ro : Row w (B + 5) n (fun _ => .bool false)
  sz : w.heap.size = B + 7
  hb : bG < B

theorem C0.two {w : World} {bG B G n : Nat} {idx comp : Nat → Int} (h : C0 w bG B G n idx comp) (k : Nat) (hk : k < n) (x y : Int) :
    C0 ((w.setCell ⟨B, k, none⟩ (.int .i32 x)).setCell ⟨B + 4, k, none⟩ (.int .i32 y)) bG B G n (fun i => if i = k then x else idx i) (fun i => if i = k then y else comp i) ∧ Keep (fun b => B ≤ b) w ((w.setCell ⟨B, k, none⟩ (.int .i32 x)).setCell ⟨B + 4, k, none⟩ (.int .i32 y)) := by
  have k1 := Keep.setCell w ⟨B, k, none⟩ (.int .i32 x)
  have k2 := Keep.setCell (w.setCell ⟨B, k, none⟩ (.int .i32 x)) ⟨B + 4, k, none⟩ (.int .i32 y)
  have kk : Keep (fun b => b = B ∨ b = B + 4) w ((w.setCell ⟨B, k, none⟩ (.int .i32 x)).setCell ⟨B + 4, k, none⟩ (.int .i32 y)) := (k1.wide (fun _ q => .inl q)).trans k2 (fun _ q => .inl (.inr q))
  have hb := h.hb
  have sz := h.sz
  have z1 := k1.size
  refine ⟨⟨kk.at h.g (by omega), kk.at h.bi (by omega), kk.at h.bl (by omega), kk.at h.bo (by omega), ?_, h.rl.keep (kk.block _ (by omega) (by omega)), ?_, h.ro.keep (kk.block _ (by omega) (by omega)), ?_, hb⟩, kk.wide (fun b q => by omega)⟩
  · exact ((h.ri.set k _ hk).keep (k2.block _ (by omega) (by show ¬ B = B + 4; omega))).congr (fun i _ => by split <;> rfl)
  · exact ((h.rc.keep (k1.block _ (by omega) (by show ¬ B + 4 = B; omega))).set k _ hk).congr (fun i _ => by split <;> rfl)
  · have : ∀ (w : World) (a : Addr) (v : Value), (w.setCell a v).heap.size = w.heap.size := fun w a v => by simp [World.setCell]
    rw [this, this]; exact sz
/-- How the search stands. -/
structure TS (w2 wr : World) (bG B G n : Nat) (first : Nat → Nat) (next kd : Nat → Int) (allow : Int) (idx low comp : Nat → Int) (on : Nat → Bool) (vis : Nat) (sa : Option Addr) (sl sc : Nat) (sk : Nat → Nat) (pa : Option Addr) (pl pc : Nat) (pn pe pf : Nat → Nat) (c : Nat) : Prop where
  cm : CM wr bG B G n idx low comp on vis sa sl sc sk pa pl pc pn pe pf
  tj : TJ n (Fw first next kd allow) idx low comp (fun x => x < n ∧ on x = true) sl sk pl pn vis c
  fr : ∀ i, i < pl → first (pn i) ≤ pe i ∧ pe i ≤ pf i ∧ pf i = first (pn i + 1)
  kp : Keep (fun b => B ≤ b) w2 wr
section
variable {w2 wr : World} {bG B G n : Nat} {first : Nat → Nat} {next kd : Nat → Int} {allow : Int} {idx low comp : Nat → Int} {on : Nat → Bool} {vis : Nat} {sa : Option Addr} {sl sc : Nat} {sk : Nat → Nat} {pa : Option Addr} {pl pc : Nat} {pn pe pf : Nat → Nat} {c : Nat}
theorem TS.bound (h : TS w2 wr bG B G n first next kd allow idx low comp on vis sa sl sc sk pa pl pc pn pe pf c) : vis ≤ n ∧ sl ≤ vis ∧ c ≤ vis ∧ pl ≤ vis := by
  have h1 : vis ≤ n := by rw [h.tj.nv]; exact num_le _ _
  have h2 := h.tj.cn
  refine ⟨h1, by omega, by omega, ?_⟩
  have h3 : ∀ i, i < pl → (i : Int) ≤ idx (pn i) := by
    intro i
    induction i with
    | zero => intro hi; exact h.tj.pos _ (h.tj.pst 0 hi)
    | succ i ih =>
      intro hi
      have := ih (by omega)
      have := h.tj.pin i (i + 1) (by omega) hi
      omega
  by_cases e : pl = 0
  · omega
  · have h4 := h3 (pl - 1) (by omega)
    have h5 := h.tj.pst (pl - 1) (by omega)
    rcases h.tj.rng _ h5.1 with q | q
    · have := h.tj.pos _ h5; omega
    · omega
theorem TS.start {w2 wr : World} {bG B G n : Nat} {first : Nat → Nat} {next kd : Nat → Int} {allow : Int} (h : C0 wr bG B G n (fun i => if i < n then -1 else 0) (fun i => if i < n then -1 else 0)) (hk : Keep (fun b => B ≤ b) w2 wr) :
    TS w2 (((wr.alloc (.cells #[.int .i32 0] 21)).alloc (.cells #[.slice none 0 0] 95)).alloc (.cells #[.slice none 0 0] 232)) bG B G n first next kd allow (fun _ => -1) (fun _ => 0) (fun _ => -1) (fun _ => false) 0 none 0 0 (fun _ => 0) none 0 0 (fun _ => 0) (fun _ => 0) (fun _ => 0) 0 := by
  have sz := h.sz
  have hb := h.hb
  have s1 : (wr.alloc (.cells #[.int .i32 0] 21)).heap.size = B + 8 := by rw [World.size_alloc]; omega
  have s2 : ((wr.alloc (.cells #[.int .i32 0] 21)).alloc (.cells #[.slice none 0 0] 95)).heap.size = B + 9 := by rw [World.size_alloc]; omega
  have b1 : (wr.alloc (.cells #[.int .i32 0] 21)).heap[B + 7]? = some (.cells #[.int .i32 0] 21) := by rw [← sz]; exact heap_alloc_new _ _
  have b2 : ((wr.alloc (.cells #[.int .i32 0] 21)).alloc (.cells #[.slice none 0 0] 95)).heap[B + 8]? = some (.cells #[.slice none 0 0] 95) := by rw [← s1]; exact heap_alloc_new _ _
  have b3 : (((wr.alloc (.cells #[.int .i32 0] 21)).alloc (.cells #[.slice none 0 0] 95)).alloc (.cells #[.slice none 0 0] 232)).heap[B + 9]? = some (.cells #[.slice none 0 0] 232) := by rw [← s2]; exact heap_alloc_new _ _
  have kk : Keep (fun _ => False) wr (((wr.alloc (.cells #[.int .i32 0] 21)).alloc (.cells #[.slice none 0 0] 95)).alloc (.cells #[.slice none 0 0] 232)) := ((Keep.alloc _ wr _).trans (Keep.alloc (fun _ => False) _ _) (fun _ q => q.elim)).trans (Keep.alloc (fun _ => False) _ _) (fun _ q => q.elim)
  refine ⟨⟨kk.at h.g id, kk.at h.bi id, kk.at h.bl id, kk.at h.bo id, heap_grow _ (heap_grow _ b1), heap_grow _ b2, b3, (h.ri.keep (kk.block _ (by omega) id)).congr (fun i hi => by simp [hi]), h.rl.keep (kk.block _ (by omega) id), (h.rc.keep (kk.block _ (by omega) id)).congr (fun i hi => by simp [hi]), h.ro.keep (kk.block _ (by omega) id), Vec.nil _ _ _ _, Vec.nil _ _ _ _, by rw [World.size_alloc]; omega, hb, nofun, nofun⟩, ?_, fun i hi => by omega, hk.trans kk (fun _ q => q.elim)⟩
  have e : (fun x => x < n ∧ (fun _ : Nat => false) x = true) = (fun _ => False) := by
    funext x; apply propext; simp
  rw [e]
  exact TJ.start n _ _ _ _
theorem TS.keepF (h : TS w2 wr bG B G n first next kd allow idx low comp on vis sa sl sc sk pa pl pc pn pe pf c) {wx : World} (k : Keep (fun _ => False) wr wx) : TS w2 wx bG B G n first next kd allow idx low comp on vis sa sl sc sk pa pl pc pn pe pf c :=
  ⟨h.cm.keepF k, h.tj, h.fr, h.kp.trans k (fun _ q => q.elim)⟩
theorem TS.enter (h : TS w2 wr bG B G n first next kd allow idx low comp on vis sa sl sc sk pa pl pc pn pe pf c) {wx : World} {v : Nat} (hv : v < n) (hi : idx v = -1) (he : 0 < pl → Fw first next kd allow (pn (pl - 1)) v) (hm : first v ≤ first (v + 1)) {sa' pa' : Option Addr} {sc' pc' : Nat} (hx : CM wx bG B G n (fun i => if i = v then (vis : Int) else idx i) (fun i => if i = v then (vis : Int) else low i) comp (fun i => if i = v then true else on i) (vis + 1) sa' (sl + 1) sc' (fun i => if i = sl then v else sk i) pa' (pl + 1) pc' (fun i => if i = pl then v else pn i) (fun i => if i = pl then first v else pe i) (fun i => if i = pl then first (v + 1) else pf i)) (k : Keep (fun b => B ≤ b) wr wx) :
    TS w2 wx bG B G n first next kd allow (fun i => if i = v then (vis : Int) else idx i) (fun i => if i = v then (vis : Int) else low i) comp (fun i => if i = v then true else on i) (vis + 1) sa' (sl + 1) sc' (fun i => if i = sl then v else sk i) pa' (pl + 1) pc' (fun i => if i = pl then v else pn i) (fun i => if i = pl then first v else pe i) (fun i => if i = pl then first (v + 1) else pf i) c := by
  refine ⟨hx, ?_, fun i hi => ?_, h.kp.trans k (fun _ q => .inl q)⟩
  · have t := h.tj.enter v hv hi he
    have e : (fun i => i = v ∨ (i < n ∧ on i = true)) = (fun x => x < n ∧ (if x = v then true else on x) = true) := by
      funext x
      apply propext
      by_cases q : x = v
      · subst q; simp [hv]
      · simp [q]
    rw [← e]; exact t
  · by_cases q : i = pl
    · simp only [q, if_true]; exact ⟨Nat.le_refl _, hm, trivial⟩
    · simp only [q, if_false]; exact h.fr i (by omega)
theorem TS.frame {gp : Nat} (h : TS w2 wr bG B G n first next kd allow idx low comp on vis sa sl sc sk (some ⟨gp, 0, none⟩) pl pc pn pe pf c) (i : Nat) (hi : i < pl) :
    wr.cell? ⟨gp, i * 3, none⟩ = some (.int .i32 (pn i : Int)) ∧ wr.cell? ⟨gp, i * 3 + 1, none⟩ = some (.int .i32 (pe i : Int)) ∧ wr.cell? ⟨gp, i * 3 + 2, none⟩ = some (.int .i32 (pf i : Int)) ∧ (∀ j, wr.frozen? ⟨gp, j, none⟩ = false) ∧ B + 10 ≤ gp := by
  obtain ⟨g, hg, _, rk⟩ := h.cm.vp.blk (by omega)
  injection hg with hg; injection hg with hg
  subst hg
  exact ⟨rk.cell i 0 hi (by omega), rk.cell i 1 hi (by omega), rk.cell i 2 hi (by omega), rk.free, h.cm.hpa _ rfl⟩
theorem TS.step {gp : Nat} (h : TS w2 wr bG B G n first next kd allow idx low comp on vis sa sl sc sk (some ⟨gp, 0, none⟩) pl pc pn pe pf c) (P : Nat) (hP : P < pl) (x : Nat) (hx : first (pn P) ≤ x ∧ x ≤ pf P) :
    TS w2 (wr.setCell ⟨gp, P * 3 + 1, none⟩ (.int .i32 (x : Int))) bG B G n first next kd allow idx low comp on vis sa sl sc sk (some ⟨gp, 0, none⟩) pl pc pn (fun j => if j = P then x else pe j) pf c := by
  obtain ⟨m, k⟩ := h.cm.setEdge gp rfl P hP x
  refine ⟨m, h.tj, fun i hi => ?_, h.kp.trans k (fun _ q => .inl q)⟩
  by_cases q : i = P
  · subst q; simp only [if_true]; exact ⟨hx.1, hx.2, (h.fr i hi).2.2⟩
  · simp only [q, if_false]; exact h.fr i hi
theorem TS.back {gp P : Nat} (h : TS w2 wr bG B G n first next kd allow idx low comp on vis sa sl sc sk (some ⟨gp, 0, none⟩) (P + 1) pc pn pe pf c) (v : Nat) (hv : v < n) (ho : on v = true) (he : Fw first next kd allow (pn P) v) (l : Int) (hl : l = if idx v < low (pn P) then idx v else low (pn P)) :
    TS w2 (wr.setCell ⟨B + 2, pn P, none⟩ (.int .i32 l)) bG B G n first next kd allow idx (fun i => if i = pn P then l else low i) comp on vis sa sl sc sk (some ⟨gp, 0, none⟩) (P + 1) pc pn pe pf c := by
  obtain ⟨m, k⟩ := h.cm.setLow (pn P) (h.tj.pst P (by omega)).1 l
  exact ⟨m, h.tj.back v ⟨hv, ho⟩ he l hl, h.fr, h.kp.trans k (fun _ q => .inl q)⟩
/-- What low is behind the way back to the parent. -/
def lowUp (low : Nat → Int) (pn : Nat → Nat) (P : Nat) : Nat → Int := if 0 < P then (fun i => if i = pn (P - 1) then (if low (pn P) < low (pn (P - 1)) then low (pn P) else low (pn (P - 1))) else low i) else low
theorem TS.up_same {gp : Nat} {P : Nat} (h : TS w2 wr bG B G n first next kd allow idx low comp on vis sa sl sc sk (some ⟨gp, 0, none⟩) (P + 1) pc pn pe pf c) : lowUp low pn P (pn P) = low (pn P) := by
  unfold lowUp
  by_cases hP : 0 < P
  · have := h.tj.pin (P - 1) P (by omega) (by omega)
    have hne : ¬ pn P = pn (P - 1) := fun q => by rw [q] at this; omega
    simp only [hP, if_true, hne, if_false]
  · simp only [hP, if_false]
theorem TS.leave {gp : Nat} {P : Nat} (h : TS w2 wr bG B G n first next kd allow idx low comp on vis sa sl sc sk (some ⟨gp, 0, none⟩) (P + 1) pc pn pe pf c) {wx : World} (hc : CM wx bG B G n idx (lowUp low pn P) comp on vis sa sl sc sk (some ⟨gp, 0, none⟩) P pc pn pe pf) (hk : Keep (fun b => B ≤ b) w2 wx) (hne : lowUp low pn P (pn P) ≠ idx (pn P)) :
    TS w2 wx bG B G n first next kd allow idx (lowUp low pn P) comp on vis sa sl sc sk (some ⟨gp, 0, none⟩) P pc pn pe pf c :=
  ⟨hc, h.tj.leave _ rfl (by rw [← h.up_same]; exact hne), fun i hi => h.fr i (by omega), hk⟩
/-- What has been taken off the stack, down to m. -/
def Popd (sk : Nat → Nat) (sl c : Nat) (comp : Nat → Int) (on : Nat → Bool) (m : Nat) (comp' : Nat → Int) (on' : Nat → Bool) : Prop := ∀ x, ((∃ i, m ≤ i ∧ i < sl ∧ sk i = x) → comp' x = c ∧ on' x = false) ∧ ((¬ ∃ i, m ≤ i ∧ i < sl ∧ sk i = x) → comp' x = comp x ∧ on' x = on x)
theorem Popd.start (sk : Nat → Nat) (sl c : Nat) (comp : Nat → Int) (on : Nat → Bool) : Popd sk sl c comp on sl comp on := fun x => ⟨fun ⟨i, h1, h2, _⟩ => by omega, fun _ => ⟨rfl, rfl⟩⟩
theorem Popd.more {M : Nat} {comp' : Nat → Int} {on' : Nat → Bool} (h : Popd sk sl c comp on (M + 1) comp' on') (hM : M < sl) : Popd sk sl c comp on M (fun i => if i = sk M then (c : Int) else comp' i) (fun i => if i = sk M then false else on' i) := by
  intro x
  constructor
  · rintro ⟨i, h1, h2, h3⟩
    by_cases q : x = sk M
    · simp only [q, if_true]; exact ⟨trivial, trivial⟩
    · simp only [q, if_false]
      refine (h x).1 ⟨i, ?_, h2, h3⟩
      by_cases e : i = M
      · subst e; exact absurd h3.symm q
      · omega
  · intro hx
    have q : ¬ x = sk M := fun q => hx ⟨M, Nat.le_refl _, hM, q.symm⟩
    simp only [q, if_false]
    exact (h x).2 (fun ⟨i, h1, h2, h3⟩ => hx ⟨i, by omega, h2, h3⟩)
theorem TS.popped {gp : Nat} {P : Nat} (h : TS w2 wr bG B G n first next kd allow idx low comp on vis sa sl sc sk (some ⟨gp, 0, none⟩) (P + 1) pc pn pe pf c) {wx : World} {p : Nat} {comp' : Nat → Int} {on' : Nat → Bool} {sa' : Option Addr} (hp : p < sl) (hpu : sk p = pn P) (hd : Popd sk sl c comp on p comp' on') (hc : CM wx bG B G n idx (lowUp low pn P) comp' on' vis sa' p sc sk (some ⟨gp, 0, none⟩) P pc pn pe pf) (hk : Keep (fun b => B ≤ b) w2 wx) (heq : lowUp low pn P (pn P) = idx (pn P)) :
    TS w2 wx bG B G n first next kd allow idx (lowUp low pn P) comp' on' vis sa' p sc sk (some ⟨gp, 0, none⟩) P pc pn pe pf (c + 1) := by
  have hin : ∀ x, (∃ i, p ≤ i ∧ i < sl ∧ sk i = x) ↔ ((x < n ∧ on x = true) ∧ idx (pn P) ≤ idx x) := by
    intro x
    constructor
    · rintro ⟨i, h1, h2, rfl⟩
      refine ⟨(h.tj.stk _).2 ⟨i, h2, rfl⟩, ?_⟩
      rw [← hpu]
      by_cases e : i = p
      · subst e; exact Int.le_refl _
      · have := h.tj.inc p i (by omega) h2; omega
    · rintro ⟨h1, h2⟩
      obtain ⟨i, hi, rfl⟩ := (h.tj.stk x).1 h1
      refine ⟨i, ?_, hi, rfl⟩
      by_cases e : i < p
      · have := h.tj.inc i p e hp; rw [hpu] at this; omega
      · omega
  have t := h.tj.pop (lowUp low pn P) rfl (by rw [← h.up_same]; exact heq) p hp hpu comp' (fun x h1 h2 => ((hd x).1 ((hin x).2 ⟨h1, h2⟩)).1) (fun x hx => ((hd x).2 (fun q => hx ((hin x).1 q))).1)
  refine ⟨hc, ?_, fun i hi => h.fr i (by omega), hk⟩
  have e : (fun x => (x < n ∧ on x = true) ∧ idx x < idx (pn P)) = (fun x => x < n ∧ on' x = true) := by
    funext x
    apply propext
    by_cases q : ∃ i, p ≤ i ∧ i < sl ∧ sk i = x
    · have h1 := ((hd x).1 q).2
      have h2 := (hin x).1 q
      rw [h1]
      constructor
      · rintro ⟨_, h3⟩; omega
      · rintro ⟨_, h3⟩; cases h3
    · have h1 := ((hd x).2 q).2
      rw [h1]
      constructor
      · rintro ⟨h3, _⟩; exact h3
      · intro h3
        refine ⟨h3, ?_⟩
        by_cases h4 : idx x < idx (pn P)
        · exact h4
        · exact absurd ((hin x).2 ⟨h3, by omega⟩) q
  rw [← e]; exact t
end

set_option maxHeartbeats 8000000 in
set_option maxRecDepth 100000 in
theorem components_any (G n E : Nat) (la : Option Addr) (lc : Nat) (ga : Option Addr) (gc FB NX KN : Nat) (ah : Value) (first : Nat → Nat) (next kd : Nat → Int) (allow : Int) (ok : Bool) (am : Value) (AM : Nat) (among : Nat → Bool) (w : World) (hgl : GL w G n E la lc ga gc FB NX KN ah first next kd) (ha : Ah w n ah ok) (hn : n ≤ 5) (hE : E ≤ 100000) (hG : G ≠ FB ∧ G ≠ NX ∧ G ≠ KN) (hal : allow = 63 ∨ (1 ≤ allow ∧ allow ≤ 62)) (ham : Am w n am AM among) :
    Calls Ybaz.prog 68 #[.pointer (some ⟨G, 0, none⟩), .int .u8 allow, am] w fun e w' => CompOut w w' G n E la lc ga gc FB NX KN ah first next kd ok allow e := by
  have n1 : (n : Int) ≤ 5 := by omega
  have hb0 : (w.alloc (.cells #[.pointer (some ⟨G, 0, none⟩)] 56)).heap[w.heap.size]? = some (.cells #[.pointer (some ⟨G, 0, none⟩)] 56) := heap_alloc_new _ _
  have k0 := Keep.alloc (fun _ => False) w (.cells #[.pointer (some ⟨G, 0, none⟩)] 56)
  have s0 := k0.size
  have HB0 : Hid _ := hb0
  have HK0 : Hid _ := k0
  have HGL0 : Hid _ := hgl.keep k0 id (fun _ _ q => q) id id id
  have HAH0 : Hid _ := ha.keep k0 (fun _ _ q => q)
  have HAM : Hid _ := ham
  have c0 : (w.alloc (.cells #[.pointer (some ⟨G, 0, none⟩)] 56)).cell? ⟨w.heap.size, 0, none⟩ = some (.pointer (some ⟨G, 0, none⟩)) := cell_of _ _ 0 _ _ hb0
  have sz1 : (w.alloc (.cells #[.pointer (some ⟨G, 0, none⟩)] 56)).heap.size = w.heap.size + 1 := World.size_alloc _ _
  have HGl : Hid _ := hgl
  clear hgl ha hb0 k0 ham
  go_enter Ybaz.func68, Ybaz.ntmps68
  go_upto_region 1 with fail
  generalize hbg : w.heap.size = bG at *
  generalize w.alloc (.cells #[.pointer (some ⟨G, 0, none⟩)] 56) = w1 at *
  have HKT := fun _ : Unit => keepTo_any G n E la lc ga gc FB NX KN ah first next kd allow ok w1 HGL0.out HAH0.out hn hG
  go_upto_region 2 with (first
    | (go_at_call 133; refine (HKT ()).mono ?_; rintro e w2 ⟨rfl, ah', ok', hgl2, hah2, hal2, hok2, hgb2, hk2⟩))
  clear HKT c0
  have HGL2 : Hid _ := hgl2
  have HAH2 : Hid _ := hah2
  have HGB2 : Hid _ := hgb2
  have HK2 : Hid _ := hk2
  have HAL : Hid (allow = 63 ∨ (ok' = true ∧ 1 ≤ allow ∧ allow ≤ 62)) := by
    rcases hal with q | q
    · exact .inl q
    · rcases hal2 with r | r
      · exact .inl r
      · exact .inr ⟨r, q⟩
  have HAL2 : Hid _ := hal2
  have HOK2 : Hid _ := hok2
  have hGb : G ≠ bG := by have := heap_lt HGl.out.blk; omega
  have b2 := hk2.at HB0.out (fun q => hGb q.symm)
  have HB2 : Hid _ := b2
  have c0 : w2.cell? ⟨bG, 0, none⟩ = some (.pointer (some ⟨G, 0, none⟩)) := cell_of _ _ 0 _ _ b2
  have c1 : w2.cell? ⟨G, 1, none⟩ = some (.slice la n lc) := cell_of w2 G 1 _ _ hgl2.blk
  have HN := fun _ : Unit => nodes_any G n lc la w2 c1
  have hbl := heap_lt b2
  clear hgl2 hah2 hgb2 hk2 hal2 hok2 b2
  have r95 := fun W => run_mkv 95 21 (.int .i32 0) 1 4 Ybaz.underlying95 inf21 (by omega) W n (by omega)
  have r86 := fun W => run_mkv 86 4 (.bool false) 1 1 Ybaz.underlying86 inf4 (by omega) W n (by omega)
  go_upto_region 4 with (first
    | (go_at_call 127; refine (HN ()).mono ?_; rintro e w3 ⟨rfl, rfl⟩))
  clear HN c0 c1
  generalize hB : w2.heap.size = B at *
  obtain ⟨s3, b3, r3, k3⟩ := mkbox w2 (.int .i32 0) 21 95 n B rfl hB _ rfl
  generalize ((w2.alloc (.cells (mc (.int .i32 0) 1 n) 21)).alloc (.cells #[.slice (some ⟨B, 0, none⟩) n n] 95)) = w3 at *
  have HB3 : Hid _ := b3
  have HR3 : Hid _ := r3
  have HK3 : Hid _ := k3
  clear b3 r3 k3
  go_upto_region 5 with fail
  obtain ⟨s4, b4, r4, k4⟩ := mkbox w3 (.int .i32 0) 21 95 n (B + 2) rfl s3 _ rfl
  generalize ((w3.alloc (.cells (mc (.int .i32 0) 1 n) 21)).alloc (.cells #[.slice (some ⟨B + 2, 0, none⟩) n n] 95)) = w4 at *
  have s4' : w4.heap.size = B + 4 := by omega
  have HB4 : Hid _ := b4
  have HR4 : Hid _ := r4
  have HK4 : Hid _ := k4
  clear b4 r4 k4 s4
  go_upto_region 6 with fail
  have s5 : (w4.alloc (.cells (mc (.int .i32 0) 1 n) 21)).heap.size = B + 5 := by rw [World.size_alloc]; omega
  have b5 : (w4.alloc (.cells (mc (.int .i32 0) 1 n) 21)).heap[B + 4]? = some (.cells (mc (.int .i32 0) 1 n) 21) := by rw [← s4']; exact heap_alloc_new _ _
  have HR5 : Hid _ := Row.made1 _ (B + 4) n (.int .i32 0) 21 rfl b5
  have HK5 : Hid _ := Keep.alloc (fun _ => False) w4 (.cells (mc (.int .i32 0) 1 n) 21)
  clear b5
  generalize w4.alloc (.cells (mc (.int .i32 0) 1 n) 21) = w5 at *
  go_upto_region 7 with fail
  obtain ⟨s6, b6, r6, k6⟩ := mkbox w5 (.bool false) 4 86 n (B + 5) rfl s5 _ rfl
  generalize ((w5.alloc (.cells (mc (.bool false) 1 n) 4)).alloc (.cells #[.slice (some ⟨B + 5, 0, none⟩) n n] 86)) = w6 at *
  have K46 := (HK5.out.trans k6 (fun _ q => q.elim))
  have K36 := (HK4.out.trans K46 (fun _ q => q.elim))
  have K26 := (HK3.out.trans K36 (fun _ q => q.elim))
  have HC6 : Hid (C0 w6 bG B G n (fun _ => 0) (fun _ => 0)) := ⟨K26.at HB2.out id, K36.at HB3.out id, K46.at HB4.out id, b6, HR3.out.keep (K36.block _ (by omega) id), HR4.out.keep (K46.block _ (by omega) id), HR5.out.keep (k6.block _ (by omega) id), r6, by omega, by omega⟩
  have HK6 : Hid (Keep (fun b => B ≤ b) w2 w6) := K26.wide (fun _ q => q.elim)
  clear K26 K36 K46 k6 r6 b6 HR3 HR4 HR5 HB3 HB4 HK3 HK4 HK5 s3 s4' s5 s6 r95 r86
  have cB : w6.cell? ⟨B + 1, 0, none⟩ = some (.slice (some ⟨B, 0, none⟩) n n) := cell_of _ _ 0 _ _ HC6.out.bi
  go_wp2
  clear cB
  go_loopw [40] (fun s wr => ∃ k : Nat, k ≤ n ∧ s = .int .i64 (k : Int) ∧ Hid (C0 wr bG B G n (fun i => if i < k then -1 else 0) (fun i => if i < k then -1 else 0)) ∧ Hid (Keep (fun b => B ≤ b) w2 wr)) (fun s _ => n - (intOf s).toNat)
  case atStart => exact ⟨0, Nat.zero_le _, rfl, by simpa using HC6, HK6⟩
  case round =>
    clear HC6 HK6
    obtain ⟨k, hk, rfl, HC, HK⟩ := hrel
    by_cases hlt : k < n
    · have k1 : (k : Int) < (n : Int) := by omega
      have k2 : (k : Int).toNat = k := by omega
      have cB : wr.cell? ⟨B + 1, 0, none⟩ = some (.slice (some ⟨B, 0, none⟩) n n) := cell_of _ _ 0 _ _ HC.out.bi
      have e1 := HC.out.ri.cell k hlt
      have e2 := HC.out.rc.cell k hlt
      have z1 := HC.out.ri.free k
      have z2 := HC.out.rc.free k
      have x1 : B + 4 ≠ B := by omega
      obtain ⟨m1, m2⟩ := HC.out.two k hlt (-1) (-1)
      have HM1 : Hid _ := m1
      have HM2 : Hid _ := HK.out.trans m2 (fun _ q => .inl q)
      clear m1 m2
      go_wp2
      go_roundw
      case rel =>
        have e : (fun i => if i = k then (-1 : Int) else if i < k then -1 else 0) = (fun i => if i < k + 1 then (-1 : Int) else 0) := by
          funext i
          by_cases q1 : i = k
          · simp [q1]
          · by_cases q2 : i < k
            · simp [q1, q2, show i < k + 1 by omega]
            · simp [q1, q2, show ¬ i < k + 1 by omega]
        rw [e] at HM1
        exact ⟨k + 1, by omega, by go_num, HM1, HM2⟩
      case measure => simp [intOf]; omega
    · have e : n = k := by omega
      subst e
      clear hlt hk
      go_upto_region 17 with fail
      have sz7 := HC.out.sz
      rw [sz7]
      simp only [Nat.add_assoc, Nat.reduceAdd]
      have HT7 : Hid (TS w2 (((wr.alloc (.cells #[.int .i32 0] 21)).alloc (.cells #[.slice none 0 0] 95)).alloc (.cells #[.slice none 0 0] 232)) bG B G n first next kd allow (fun _ => -1) (fun _ => 0) (fun _ => -1) (fun _ => false) 0 none 0 0 (fun _ => 0) none 0 0 (fun _ => 0) (fun _ => 0) (fun _ => 0) 0) := TS.start HC.out HK.out
      clear HC HK
      generalize (((wr.alloc (.cells #[.int .i32 0] 21)).alloc (.cells #[.slice none 0 0] 95)).alloc (.cells #[.slice none 0 0] 232)) = w7 at *
      have HOB : Hid (∀ b, gBlk G ga FB NX KN n ah' b → b < B) := by
        obtain ⟨l1, l2, l3⟩ := HGL2.out.lt
        have l0 := heap_lt HGL2.out.blk
        rintro b (q | q | q | q | q | q)
        · omega
        · have := HGL2.out.vg.lt q; omega
        · omega
        · omega
        · omega
        · rcases HAH2.out with ⟨_, r⟩ | ⟨_, AH, r, _, r2⟩
          · rw [r] at q; unfold vnil at q; injection q with q; cases q
          · rw [r] at q; injection q with q; injection q with q; injection q with q; omega
      have HRA : Hid (Row w AM n (fun i => .bool (among i)) → AM < bG → ∀ r, r < n → w2.cell? ⟨AM, r, none⟩ = some (.bool (among r))) := by
        intro hra hAM r hr
        have hne : AM ≠ G := fun q => by
          subst q
          have h1 := hra.cell 0 (by omega)
          rw [cell_of w AM 0 _ _ HGl.out.blk] at h1
          simp [gcells] at h1
        have k01 := (HK0.out.cell ⟨AM, r, none⟩ (by show AM < w.heap.size; omega) id).trans (hra.cell r hr)
        exact (HK2.out.cell ⟨AM, r, none⟩ (by show AM < w1.heap.size; omega) hne).trans k01
      have cg : w7.cell? ⟨bG, 0, none⟩ = some (.pointer (some ⟨G, 0, none⟩)) := cell_of _ _ 0 _ _ HT7.out.cm.g
      have c0 : w7.cell? ⟨G, 0, none⟩ = some (.int .i64 (n : Int)) := cell_of w7 G 0 _ _ (HGL2.out.keepB HT7.out.kp (fun b hb q => by have := HOB.out b hb; omega)).blk
      have nw : IntKind.i32.wrap (n : Int) = (n : Int) := by unfold IntKind.wrap; simp [IntKind.bits, IntKind.signed]; omega
      go_wp2
      clear cg c0 nw sz7
      go_loopg [16, 56] n (fun gk s16 s56 wr => ∃ (r c : Nat) (idx low comp : Nat → Int) (on : Nat → Bool) (vis : Nat) (sa : Option Addr) (sl sc : Nat) (sk : Nat → Nat) (pa : Option Addr) (pc : Nat) (pn pe pf : Nat → Nat), s16 = .int .i32 (c : Int) ∧ s56 = .int .i32 (r : Int) ∧ r ≤ n ∧ gk = n - r ∧ Hid (TS w2 wr bG B G n first next kd allow idx low comp on vis sa sl sc sk pa 0 pc pn pe pf c))
      case atStart => exact ⟨0, 0, _, _, _, _, _, _, _, _, _, _, _, _, _, _, rfl, rfl, Nat.zero_le _, rfl, HT7⟩
      case round =>
        as_aux_lemma =>
          clear HT7
          obtain ⟨r, c, idx, low, comp, on, vis, sa, sl, sc, sk, pa, pc, pn, pe, pf, rfl, rfl, hr, rfl, HT⟩ := hrel
          by_cases hrn : r < n
          · as_aux_lemma =>
              have r1 : (r : Int) < (n : Int) := by omega
              have r2 : (r : Int).toNat = r := by omega
              go_upto_region 20 with fail
              go_cut [56, 74] from 56 to 232 (fun t s wx => wr = wx ∧ t = .int .i32 (r : Int) ∧ ∃ bb, s = .bool bb ∧ (bb = false → idx r = -1))
              case first =>
                as_aux_lemma =>
                  have cB : wr.cell? ⟨B + 1, 0, none⟩ = some (.slice (some ⟨B, 0, none⟩) n n) := cell_of _ _ 0 _ _ HT.out.cm.bi
                  have e1 := HT.out.cm.ri.cell r hrn
                  by_cases hi : idx r = -1
                  · have HI : Hid _ := hi
                    have q1 : (idx r != -1) = false := by simpa using hi
                    clear hi
                    rcases HAM.out with rfl | ⟨rfl, hra, hAM⟩
                    · go_wp2
                      go_meet
                      exact ⟨rfl, rfl, _, rfl, fun _ => HI.out⟩
                    · have hAM2 : AM < w2.heap.size := by omega
                      have ea : wr.cell? ⟨AM, r, none⟩ = some (.bool (among r)) := (HT.out.kp.cell ⟨AM, r, none⟩ hAM2 (by show ¬ B ≤ AM; omega)).trans (HRA.out hra hAM r hrn)
                      clear hra
                      go_wp2
                      go_meet
                      exact ⟨rfl, rfl, _, rfl, fun _ => HI.out⟩
                  · have q1 : (idx r != -1) = true := by simpa using hi
                    clear hi
                    go_wp2
                    go_meet
                    exact ⟨rfl, rfl, _, rfl, nofun⟩
              case rest =>
                obtain ⟨rfl, rfl, bb, rfl, hbb⟩ := hcut
                have HBB : Hid _ := hbb
                clear hbb
                cases bb with
                | true =>
                  go_wp2
                  go_roundg (n - (r + 1))
                  case measure => omega
                  case rel => exact ⟨r + 1, c, _, _, _, _, _, _, _, _, _, _, _, _, _, _, rfl, by go_num, by omega, rfl, HT⟩
                | false =>
                  have HI : Hid _ := HBB.out rfl
                  clear HBB
                  obtain ⟨bd1, bd2, bd3, bd4⟩ := HT.out.bound
                  have gl8 := HGL2.out.keepB HT.out.kp (fun b hb q => by have := HOB.out b hb; omega)
                  have hm8 : first r ≤ first (r + 1) := gl8.mono r hrn
                  have HEN := fun _ : Unit => enter_any G n E la lc ga gc FB NX KN ah' first next kd bG B idx low comp on vis sa sl sc sk pa 0 pc pn pe pf r wr gl8 HT.out.cm hrn hn (by omega) (by omega) (by omega) HOB.out
                  clear gl8
                  go_wp2_with (first
                    | (go_at_call 134; refine (HEN ()).mono ?_; clear HEN; rintro e w8 ⟨rfl, ⟨sa8, sc8, pa8, pc8, hcm8⟩, hk8⟩; have HT8 : Hid _ := HT.out.enter hrn HI.out (fun h => absurd h (Nat.lt_irrefl 0)) hm8 hcm8 hk8; clear hcm8 hk8 HT HI))
                  go_loopg [16] (2 * (n - (vis + 1)) + (0 + 1)) (fun gk s16 wr => ∃ (c : Nat) (idx low comp : Nat → Int) (on : Nat → Bool) (vis : Nat) (sa : Option Addr) (sl sc : Nat) (sk : Nat → Nat) (pa : Option Addr) (pl pc : Nat) (pn pe pf : Nat → Nat), s16 = .int .i32 (c : Int) ∧ gk = 2 * (n - vis) + pl ∧ Hid (TS w2 wr bG B G n first next kd allow idx low comp on vis sa sl sc sk pa pl pc pn pe pf c))
                  case atStart => exact ⟨c, _, _, _, _, _, _, _, _, _, _, _, _, _, _, _, rfl, rfl, HT8⟩
                  case round =>
                    as_aux_lemma =>
                      clear HT8 hm8 bd1 bd2 bd3 bd4
                      obtain ⟨c, idx, low, comp, on, vis, sa, sl, sc, sk, pa, pl, pc, pn, pe, pf, rfl, rfl, HT⟩ := hrel
                      obtain ⟨bd1, bd2, bd3, bd4⟩ := HT.out.bound
                      have c9 : wr.cell? ⟨B + 9, 0, none⟩ = some (.slice pa pl pc) := cell_of _ _ 0 _ _ HT.out.cm.bp
                      cases pl with
                      | zero =>
                        go_wp2
                        go_roundg (n - (r + 1))
                        case measure => omega
                        case rel => exact ⟨r + 1, c, _, _, _, _, _, _, _, _, _, _, _, _, _, _, rfl, by go_num, by omega, rfl, HT⟩
                      | succ P =>
                        obtain ⟨gp, rfl, hgp, rk⟩ := HT.out.cm.vp.blk (by omega)
                        have hP5 : (P : Int) < 5 := by omega
                        have e0 : wr.cell? ⟨gp, P * 3, none⟩ = some (.int .i32 (pn P : Int)) := rk.cell P 0 (by omega) (by omega)
                        go_upto_region 25 with fail
                        clear c9 rk e0 hgp
                        go_loopg [22] (pf P - pe P) (fun gk _ wr => ∃ (low : Nat → Int) (pe : Nat → Nat), gk = pf P - pe P ∧ Hid (TS w2 wr bG B G n first next kd allow idx low comp on vis sa sl sc sk (some ⟨gp, 0, none⟩) (P + 1) pc pn pe pf c))
                        case atStart => exact ⟨low, pe, rfl, HT⟩
                        case round =>
                          as_aux_lemma =>
                            clear HT
                            clear low pe
                            obtain ⟨low, pe, rfl, HT⟩ := hrel
                            obtain ⟨f1, f2, f3⟩ := HT.out.fr P (by omega)
                            have hun : pn P < n := (HT.out.tj.pst P (by omega)).1
                            obtain ⟨e0, e1, e2, fz, hgB⟩ := HT.out.frame P (by omega)
                            have c9 : wr.cell? ⟨B + 9, 0, none⟩ = some (.slice (some ⟨gp, 0, none⟩) (P + 1) pc) := cell_of _ _ 0 _ _ HT.out.cm.bp
                            by_cases hlt : pe P < pf P
                            · as_aux_lemma =>
                                have gl := HGL2.out.keepB HT.out.kp (fun b hb q => by have := HOB.out b hb; omega)
                                have hpE : pe P < E := by have := gl.top (pn P + 1) (by omega); omega
                                obtain ⟨v, hv, hvn⟩ : ∃ v : Nat, next (pe P) = (v : Int) ∧ v < n := ⟨(next (pe P)).toNat, by have := gl.hn _ hpE; omega, by have := gl.hn _ hpE; omega⟩
                                have HV : Hid _ := hv
                                obtain ⟨d, hd⟩ : ∃ d, Hid (d = kd (pe P)) := ⟨_, rfl⟩
                                have hkd : 0 ≤ d ∧ d ≤ 255 := by rw [hd.out]; exact gl.hk _ hpE
                                have q1 : (pe P : Int) < (pf P : Int) := by omega
                                have q2 : (pe P : Int) < (E : Int) := by omega
                                have q3 : (pe P : Int).toNat = pe P := by omega
                                have q4 : IntKind.i32.wrap ((pe P : Int) + 1) = (pe P : Int) + 1 := by unfold IntKind.wrap; simp [IntKind.bits, IntKind.signed]; omega
                                have fz1 := fz (P * 3 + 1)
                                clear gl
                                go_upto_region 25 with fail
                                go_quiet (fail)
                                have HT6 : Hid _ := HT.out.keepF (wx := wr.drewN nq) ((Keep.refl _ _).drewN _)
                                clear HT
                                have e1' : (wr.drewN nq).cell? ⟨gp, P * 3 + 1, none⟩ = some (.int .i32 (pe P : Int)) := e1
                                have fz1' : (wr.drewN nq).frozen? ⟨gp, P * 3 + 1, none⟩ = false := fz1
                                clear e0 e1 e2 fz fz1 c9
                                generalize wr.drewN nq = w6 at *
                                have HT7 : Hid _ := HT6.out.step P (by omega) (pe P + 1) (by omega)
                                rw [show ((pe P + 1 : Nat) : Int) = (pe P : Int) + 1 by omega] at HT7
                                go_upto_region 28 with fail
                                clear HT6 e1' fz1'
                                generalize w6.setCell ⟨gp, P * 3 + 1, none⟩ (.int .i32 ((pe P : Int) + 1)) = w7 at *
                                have gl := HGL2.out.keepB HT7.out.kp (fun b hb q => by have := HOB.out b hb; omega)
                                have cg : w7.cell? ⟨bG, 0, none⟩ = some (.pointer (some ⟨G, 0, none⟩)) := cell_of _ _ 0 _ _ HT7.out.cm.g
                                have c6 : w7.cell? ⟨G, 6, none⟩ = some (.slice (some ⟨NX, 0, none⟩) E E) := cell_of w7 G 6 _ _ gl.blk
                                have c7 : w7.cell? ⟨G, 7, none⟩ = some (.slice (some ⟨KN, 0, none⟩) E E) := cell_of w7 G 7 _ _ gl.blk
                                have en : w7.cell? ⟨NX, pe P, none⟩ = some (.int .i32 (v : Int)) := by rw [← HV.out]; exact gl.rn.cell _ hpE
                                have ek : w7.cell? ⟨KN, pe P, none⟩ = some (.int .u8 d) := by rw [hd.out]; exact gl.rk.cell _ hpE
                                have v1 : (v : Int) < (n : Int) := by omega
                                have v2 : (v : Int).toNat = v := by omega
                                have hA2 : Ah w2 n ah' ok' := by have h := HAH2.out; rw [← hB] at h; exact h
                                have hA7 := hA2.keep HT7.out.kp (fun b hb q => by have := HOB.out b (.inr (.inr (.inr (.inr (.inr hb))))); omega)
                                have HFQ : ∀ (_ : Unit) (q : Nat), Calls Ybaz.prog 135 #[.pointer (some ⟨G, 0, none⟩), .int .i32 (v : Int), .int .u8 d, .int .u8 allow] (w7.drewN q) fun e w' => e = .returned (.bool (fl d allow)) ∧ ∃ m, w' = (w7.drewN q).drewN m := fun _ q => (follows_any G n E la lc ga gc FB NX KN ah' first next kd v d allow ok' (w7.drewN q) (gl.keep ((Keep.refl (fun _ => False) _).drewN q) id (fun _ _ h => h) id id id) (hA7.keep ((Keep.refl (fun _ => False) _).drewN q) (fun _ _ h => h)) hvn hkd HAL.out).mono (fun e w' h => ⟨h.1, 0, h.2 ▸ rfl⟩)
                                have HM : Hid (∀ r, r < n → first r ≤ first (r + 1)) := gl.mono
                                clear gl hA2 hA7
                                go_upto_region 29 with fail
                                go_cut [139] from 90 to 163 (fun s wx => (∃ nq, wx = w7.drewN nq) ∧ ∃ bb, s = .bool bb ∧ (bb = false → fl d allow = true))
                                case first =>
                                  as_aux_lemma =>
                                    clear c6 en
                                    cases hfl : fl d allow with
                                    | false =>
                                      rw [hfl] at HFQ
                                      go_quiet (first
                                        | (go_at_call 135; exact Calls.quiet_of (HFQ () _)))
                                      go_wp2
                                      go_meet
                                      exact ⟨⟨_, rfl⟩, _, rfl, nofun⟩
                                    | true =>
                                      rw [hfl] at HFQ
                                      rcases HAM.out with rfl | ⟨rfl, hra, hAM⟩
                                      · go_quiet (first
                                          | (go_at_call 135; exact Calls.quiet_of (HFQ () _)))
                                        go_wp2
                                        go_meet
                                        exact ⟨⟨_, rfl⟩, _, rfl, fun _ => hfl⟩
                                      · have hAM2 : AM < w2.heap.size := by omega
                                        have ea : w7.cell? ⟨AM, v, none⟩ = some (.bool (among v)) := (HT7.out.kp.cell ⟨AM, v, none⟩ hAM2 (by show ¬ B ≤ AM; omega)).trans (HRA.out hra hAM v hvn)
                                        clear hra
                                        go_quiet (first
                                          | (go_at_call 135; exact Calls.quiet_of (HFQ () _)))
                                        go_wp2
                                        go_meet
                                        exact ⟨⟨_, rfl⟩, _, rfl, fun _ => hfl⟩
                                case rest =>
                                  obtain ⟨⟨nq, hwc⟩, bb, rfl, hbb⟩ := hcut
                                  have HBB : Hid _ := hbb
                                  have HT8 : Hid _ := HT7.out.keepF (wx := wc) (by rw [hwc]; exact (Keep.refl _ _).drewN _)
                                  clear hbb hwc HT7 HFQ cg c6 c7 en ek
                                  cases bb with
                                  | true =>
                                    go_wp2
                                    go_roundg (pf P - (pe P + 1))
                                    case measure => omega
                                    case rel => exact ⟨low, _, by simp, HT8⟩
                                  | false =>
                                    have HFL := HBB.out rfl
                                    have HFW : Hid (Fw first next kd allow (pn P) v) := ⟨pe P, f1, by omega, by rw [← hd.out]; exact HFL, HV.out⟩
                                    clear HBB HFL
                                    have c1 : wc.cell? ⟨B + 1, 0, none⟩ = some (.slice (some ⟨B, 0, none⟩) n n) := cell_of _ _ 0 _ _ HT8.out.cm.bi
                                    have ei := HT8.out.cm.ri.cell v hvn
                                    by_cases hi : idx v = -1
                                    · as_aux_lemma =>
                                        have HI : Hid _ := hi
                                        have q5 : (idx v == -1) = true := by simpa using hi
                                        clear hi
                                        have gl8 := HGL2.out.keepB HT8.out.kp (fun b hb q => by have := HOB.out b hb; omega)
                                        have HEN := fun _ : Unit => enter_any G n E la lc ga gc FB NX KN ah' first next kd bG B idx low comp on vis sa sl sc sk (some ⟨gp, 0, none⟩) (P + 1) pc pn _ pf v wc gl8 HT8.out.cm hvn hn (by omega) (by omega) (by omega) HOB.out
                                        clear gl8
                                        have hvu : ¬ v = pn P := fun q => by have := HT8.out.tj.pos _ (HT8.out.tj.pst P (by omega)); rw [← q, HI.out] at this; omega
                                        go_upto_region 34 with (first
                                          | (go_at_call 134; refine (HEN ()).mono ?_; clear HEN; rintro e w9 ⟨rfl, ⟨sa9, sc9, pa9, pc9, hcm9⟩, hk9⟩; have HT9 : Hid _ := HT8.out.enter hvn HI.out (fun _ => HFW.out) (HM.out v hvn) hcm9 hk9; clear hcm9 hk9 HT8 HI c1 ei))
                                        obtain ⟨gq, rfl, _, rk⟩ := HT9.out.cm.vp.blk (by omega)
                                        have e9 : w9.cell? ⟨gq, (P + 1) * 3, none⟩ = some (.int .i32 (v : Int)) := by
                                          have := rk.cell (P + 1) 0 (by omega) (by omega)
                                          simpa [fr] using this
                                        have c9 : w9.cell? ⟨B + 9, 0, none⟩ = some (.slice (some ⟨gq, 0, none⟩) (P + 1 + 1) pc9) := cell_of _ _ 0 _ _ HT9.out.cm.bp
                                        have q6 : ((v : Int) != (pn P : Int)) = true := by simp; omega
                                        have bd := HT9.out.bound
                                        clear rk
                                        go_wp2
                                        go_roundg (2 * (n - (vis + 1)) + (P + 1 + 1))
                                        case measure => omega
                                        case rel => exact ⟨c, _, _, _, _, _, _, _, _, _, _, _, _, _, _, _, rfl, rfl, HT9⟩
                                    · as_aux_lemma =>
                                        have q5 : (idx v == -1) = false := by simpa using hi
                                        clear hi
                                        have co : wc.cell? ⟨B + 6, 0, none⟩ = some (.slice (some ⟨B + 5, 0, none⟩) n n) := cell_of _ _ 0 _ _ HT8.out.cm.bo
                                        have eo := HT8.out.cm.ro.cell v hvn
                                        cases ho : on v with
                                        | false =>
                                          rw [ho] at eo
                                          go_wp2
                                          go_roundg (pf P - (pe P + 1))
                                          case measure => omega
                                          case rel => exact ⟨low, _, by simp, HT8⟩
                                        | true =>
                                          have HO : Hid _ := ho
                                          rw [ho] at eo
                                          clear ho
                                          have cl : wc.cell? ⟨B + 3, 0, none⟩ = some (.slice (some ⟨B + 2, 0, none⟩) n n) := cell_of _ _ 0 _ _ HT8.out.cm.bl
                                          have el := HT8.out.cm.rl.cell (pn P) hun
                                          have zl := HT8.out.cm.rl.free (pn P)
                                          have u1 : (pn P : Int) < (n : Int) := by omega
                                          have u2 : (pn P : Int).toNat = pn P := by omega
                                          have HTb : Hid _ := (HT8.out.back v hvn HO.out HFW.out _ rfl).keepF ((Keep.refl (fun _ => False) _).drew)
                                          go_upto_region 33 with fail
                                          go_region
                                          clear cl el zl co eo c1 ei HT8
                                          generalize (wc.setCell ⟨B + 2, pn P, none⟩ (.int .i32 (if idx v < low (pn P) then idx v else low (pn P)))).drew = wd at *
                                          generalize (if idx v < low (pn P) then idx v else low (pn P)) = lm at *
                                          go_wp2
                                          go_roundg (pf P - (pe P + 1))
                                          case measure => omega
                                          case rel => exact ⟨_, _, by simp, HTb⟩
                            · as_aux_lemma =>
                                have q1 : ¬ (pe P : Int) < (pf P : Int) := by omega
                                go_upto_region 25 with fail
                                go_quiet (fail)
                                have HT6 : Hid _ := HT.out.keepF (wx := wr.drewN nq) ((Keep.refl _ _).drewN _)
                                clear HT
                                have e0' : (wr.drewN nq).cell? ⟨gp, P * 3, none⟩ = some (.int .i32 (pn P : Int)) := e0
                                have c9' : (wr.drewN nq).cell? ⟨B + 9, 0, none⟩ = some (.slice (some ⟨gp, 0, none⟩) (P + 1) pc) := c9
                                clear e0 e1 e2 fz c9
                                generalize wr.drewN nq = w6 at *
                                have f9 := free_of w6 (B + 9) 0 _ _ HT6.out.cm.bp
                                have hcap : P + 1 ≤ pc := HT6.out.cm.vp.cap
                                have hcap2 : (P : Int) ≤ (pc : Int) := by omega
                                obtain ⟨m7, k7⟩ := HT6.out.cm.cutPath P (by omega)
                                have HM7 : Hid _ := m7
                                have HK7 : Hid _ := HT6.out.kp.trans k7 (fun _ q => .inl q)
                                clear m7 k7
                                have P1 : (P : Int).toNat = P := by omega
                                go_upto_region 36 with fail
                                clear e0' c9' f9 hcap
                                generalize w6.setCell ⟨B + 9, 0, none⟩ (.slice (some ⟨gp, 0, none⟩) P pc) = w7 at *
                                have c9 : w7.cell? ⟨B + 9, 0, none⟩ = some (.slice (some ⟨gp, 0, none⟩) P pc) := cell_of _ _ 0 _ _ HM7.out.bp
                                by_cases hP0 : 0 < P
                                · as_aux_lemma =>
                                    have p1 : (0 : Int) < (P : Int) := by omega
                                    have p2 : ((P : Int) - 1).toNat = P - 1 := by omega
                                    have p3 : (0 : Int) ≤ (P : Int) - 1 := by omega
                                    have p4 : (P : Int) - 1 < (P : Int) := by omega
                                    obtain ⟨_, hgq, _, rk⟩ := HM7.out.vp.blk hP0
                                    injection hgq with hgq; injection hgq with hgq
                                    subst hgq
                                    have ep : w7.cell? ⟨gp, (P - 1) * 3, none⟩ = some (.int .i32 (pn (P - 1) : Int)) := rk.cell (P - 1) 0 (by omega) (by omega)
                                    have hpn : pn (P - 1) < n := (HT6.out.tj.pst (P - 1) (by omega)).1
                                    have c3 : w7.cell? ⟨B + 3, 0, none⟩ = some (.slice (some ⟨B + 2, 0, none⟩) n n) := cell_of _ _ 0 _ _ HM7.out.bl
                                    have el1 := HM7.out.rl.cell (pn (P - 1)) hpn
                                    have el2 := HM7.out.rl.cell (pn P) hun
                                    have zl := HM7.out.rl.free (pn (P - 1))
                                    have v1 : (pn (P - 1) : Int) < (n : Int) := by omega
                                    have v2 : (pn (P - 1) : Int).toNat = pn (P - 1) := by omega
                                    have v3 : (pn P : Int) < (n : Int) := by omega
                                    have v4 : (pn P : Int).toNat = pn P := by omega
                                    obtain ⟨m8, k8⟩ := HM7.out.setLow (pn (P - 1)) hpn (if low (pn P) < low (pn (P - 1)) then low (pn P) else low (pn (P - 1)))
                                    have hlu : (fun i => if i = pn (P - 1) then (if low (pn P) < low (pn (P - 1)) then low (pn P) else low (pn (P - 1))) else low i) = lowUp low pn P := by unfold lowUp; rw [if_pos hP0]
                                    rw [hlu] at m8
                                    have HM8 : Hid _ := m8.keepF ((Keep.refl (fun _ => False) _).drew)
                                    have HK8 : Hid _ := (HK7.out.trans k8 (fun _ q => .inl q)).drew
                                    clear m8 k8 hlu rk
                                    go_upto_region 38 with fail
                                    go_region
                                    clear HM7 HK7 c9 ep c3 el1 el2 zl
                                    generalize (w7.setCell ⟨B + 2, pn (P - 1), none⟩ (.int .i32 (if low (pn P) < low (pn (P - 1)) then low (pn P) else low (pn (P - 1))))).drew = w8 at *
                                    generalize (if low (pn P) < low (pn (P - 1)) then low (pn P) else low (pn (P - 1))) = lm at *
                                    have HUS : Hid (lowUp low pn P (pn P) = low (pn P)) := HT6.out.up_same
                                    have c3 : w8.cell? ⟨B + 3, 0, none⟩ = some (.slice (some ⟨B + 2, 0, none⟩) n n) := cell_of _ _ 0 _ _ HM8.out.bl
                                    have c1 : w8.cell? ⟨B + 1, 0, none⟩ = some (.slice (some ⟨B, 0, none⟩) n n) := cell_of _ _ 0 _ _ HM8.out.bi
                                    have el := HM8.out.rl.cell (pn P) hun
                                    have ei := HM8.out.ri.cell (pn P) hun
                                    obtain ⟨L, HL⟩ : ∃ L, Hid (L = lowUp low pn P (pn P)) := ⟨_, rfl⟩
                                    rw [← HL.out] at el
                                    have u1 : (pn P : Int) < (n : Int) := by omega
                                    have u2 : (pn P : Int).toNat = pn P := by omega
                                    go_upto_region 39 with fail
                                    go_quiet (fail)
                                    have kd8 : Keep (fun _ => False) w8 (w8.drewN nq) := (Keep.refl _ _).drewN _
                                    have HM9 : Hid _ := HM8.out.keepF kd8
                                    have HK9 : Hid (Keep (fun b => B ≤ b) w2 (w8.drewN nq)) := HK8.out.trans kd8 (fun _ q => q.elim)
                                    clear HM8 HK8 c3 c1 el ei kd8
                                    generalize w8.drewN nq = w9 at *
                                    by_cases heq : L = idx (pn P)
                                    · have HEQ : Hid _ := heq
                                      have q9 : (L == idx (pn P)) = true := by simpa using heq
                                      clear heq
                                      obtain ⟨p, hp, hpu⟩ := (HT6.out.tj.stk (pn P)).1 (HT6.out.tj.pst P (by omega))
                                      have HPU : Hid _ := hpu
                                      clear hpu
                                      go_wp2
                                      go_loopg [24] (sl - p) (fun gk _ wr => ∃ (m : Nat) (comp' : Nat → Int) (on' : Nat → Bool), p < m ∧ m ≤ sl ∧ gk = m - p ∧ Hid (Popd sk sl c comp on m comp' on') ∧ Hid (CM wr bG B G n idx (lowUp low pn P) comp' on' vis sa m sc sk (some ⟨gp, 0, none⟩) P pc pn pe pf) ∧ Hid (Keep (fun b => B ≤ b) w2 wr))
                                      case atStart => exact ⟨sl, comp, on, hp, Nat.le_refl _, rfl, Popd.start _ _ _ _ _, HM9, HK9⟩
                                      case round =>
                                        as_aux_lemma =>
                                          clear HM9 HK9
                                          obtain ⟨m, comp', on', hpm, hms, rfl, HD, HM, HK⟩ := hrel
                                          obtain ⟨M, rfl⟩ : ∃ M, m = M + 1 := ⟨m - 1, by omega⟩
                                          obtain ⟨gs, rfl, _, rs⟩ := HM.out.vs.blk (by omega)
                                          have es : wr.cell? ⟨gs, M, none⟩ = some (.int .i32 (sk M : Int)) := by have := rs.cell M 0 (by omega) (by omega); simpa using this
                                          have hskn : sk M < n := ((HT6.out.tj.stk (sk M)).2 ⟨M, by omega, rfl⟩).1
                                          have c8 : wr.cell? ⟨B + 8, 0, none⟩ = some (.slice (some ⟨gs, 0, none⟩) (M + 1) sc) := cell_of _ _ 0 _ _ HM.out.bs
                                          have f8 := free_of wr (B + 8) 0 _ _ HM.out.bs
                                          have hcs : M + 1 ≤ sc := HM.out.vs.cap
                                          have hcs2 : (M : Int) ≤ (sc : Int) := by omega
                                          have M5 : (M : Int) < 5 := by omega
                                          have M1 : (M : Int).toNat = M := by omega
                                          obtain ⟨ma, ka⟩ := HM.out.cutStack M (by omega)
                                          have HMa : Hid _ := ma
                                          have HKa : Hid _ := HK.out.trans ka (fun _ q => .inl q)
                                          clear ma ka rs
                                          go_upto_region 42 with fail
                                          clear HM HK es c8 f8 hcs
                                          generalize wr.setCell ⟨B + 8, 0, none⟩ (.slice (some ⟨gs, 0, none⟩) M sc) = wa at *
                                          have co : wa.cell? ⟨B + 6, 0, none⟩ = some (.slice (some ⟨B + 5, 0, none⟩) n n) := cell_of _ _ 0 _ _ HMa.out.bo
                                          have eo := HMa.out.ro.cell (sk M) hskn
                                          have fo := HMa.out.ro.free (sk M)
                                          have s1 : (sk M : Int) < (n : Int) := by omega
                                          have s2 : (sk M : Int).toNat = sk M := by omega
                                          obtain ⟨mb, kb⟩ := HMa.out.setOn (sk M) hskn false
                                          have HMb : Hid _ := mb
                                          have HKb : Hid _ := HKa.out.trans kb (fun _ q => .inl q)
                                          clear mb kb
                                          go_upto_region 43 with fail
                                          clear HMa HKa co eo fo
                                          generalize wa.setCell ⟨B + 5, sk M, none⟩ (.bool false) = wb at *
                                          have ec := HMb.out.rc.cell (sk M) hskn
                                          have fc := HMb.out.rc.free (sk M)
                                          obtain ⟨mc', kc⟩ := HMb.out.setComp (sk M) hskn (c : Int)
                                          have HMc : Hid _ := mc'
                                          have HKc : Hid _ := HKb.out.trans kc (fun _ q => .inl q)
                                          clear mc' kc
                                          go_upto_region 44 with fail
                                          clear HMb HKb ec fc
                                          generalize wb.setCell ⟨B + 4, sk M, none⟩ (.int .i32 (c : Int)) = wd at *
                                          by_cases hMp : M = p
                                          · subst hMp
                                            have q10 : ((sk M : Int) == (pn P : Int)) = true := by have := HPU.out; simp; omega
                                            have hcw : IntKind.i32.wrap ((c : Int) + 1) = (c : Int) + 1 := by unfold IntKind.wrap; simp [IntKind.bits, IntKind.signed]; omega
                                            go_wp2
                                            go_roundg (2 * (n - vis) + P)
                                            case measure => omega
                                            case rel => exact ⟨c + 1, _, _, _, _, _, _, _, _, _, _, _, _, _, _, _, by go_num, rfl, HT6.out.popped hp HPU.out (HD.out.more (by omega)) HMc.out HKc.out (by rw [← HL.out]; exact HEQ.out)⟩
                                          · have hne : sk M ≠ pn P := fun q => by
                                              have := HT6.out.tj.inc p M (by omega) (by omega)
                                              rw [HPU.out, q] at this; omega
                                            have q10 : ((sk M : Int) == (pn P : Int)) = false := by simp; omega
                                            clear hne
                                            go_wp2
                                            go_roundg (M - p)
                                            case measure => omega
                                            case rel => exact ⟨M, _, _, by omega, by omega, rfl, HD.out.more (by omega), HMc, HKc⟩
                                    · have HEQ : Hid _ := heq
                                      have q9 : (L == idx (pn P)) = false := by simpa using heq
                                      clear heq
                                      go_wp2
                                      go_roundg (2 * (n - vis) + P)
                                      case measure => omega
                                      case rel => exact ⟨c, _, _, _, _, _, _, _, _, _, _, _, _, _, _, _, rfl, rfl, HT6.out.leave HM9.out HK9.out (by rw [← HL.out]; exact HEQ.out)⟩
                                · as_aux_lemma =>
                                    have p1 : ¬ (0 : Int) < (P : Int) := by omega
                                    have hlu : low = lowUp low pn P := by unfold lowUp; rw [if_neg hP0]
                                    have HM8 : Hid (CM w7 bG B G n idx (lowUp low pn P) comp on vis sa sl sc sk (some ⟨gp, 0, none⟩) P pc pn pe pf) := by rw [← hlu]; exact HM7.out
                                    have HK8 : Hid _ := HK7.out
                                    clear HM7 HK7 hlu
                                    have HUS : Hid (lowUp low pn P (pn P) = low (pn P)) := HT6.out.up_same
                                    have c3 : w7.cell? ⟨B + 3, 0, none⟩ = some (.slice (some ⟨B + 2, 0, none⟩) n n) := cell_of _ _ 0 _ _ HM8.out.bl
                                    have c1 : w7.cell? ⟨B + 1, 0, none⟩ = some (.slice (some ⟨B, 0, none⟩) n n) := cell_of _ _ 0 _ _ HM8.out.bi
                                    have el := HM8.out.rl.cell (pn P) hun
                                    have ei := HM8.out.ri.cell (pn P) hun
                                    obtain ⟨L, HL⟩ : ∃ L, Hid (L = lowUp low pn P (pn P)) := ⟨_, rfl⟩
                                    rw [← HL.out] at el
                                    have u1 : (pn P : Int) < (n : Int) := by omega
                                    have u2 : (pn P : Int).toNat = pn P := by omega
                                    go_upto_region 39 with fail
                                    go_quiet (fail)
                                    have kd8 : Keep (fun _ => False) w7 (w7.drewN nq) := (Keep.refl _ _).drewN _
                                    have HM9 : Hid _ := HM8.out.keepF kd8
                                    have HK9 : Hid (Keep (fun b => B ≤ b) w2 (w7.drewN nq)) := HK8.out.trans kd8 (fun _ q => q.elim)
                                    clear HM8 HK8 c3 c1 el ei kd8
                                    generalize w7.drewN nq = w9 at *
                                    by_cases heq : L = idx (pn P)
                                    · have HEQ : Hid _ := heq
                                      have q9 : (L == idx (pn P)) = true := by simpa using heq
                                      clear heq
                                      obtain ⟨p, hp, hpu⟩ := (HT6.out.tj.stk (pn P)).1 (HT6.out.tj.pst P (by omega))
                                      have HPU : Hid _ := hpu
                                      clear hpu
                                      go_wp2
                                      go_loopg [24] (sl - p) (fun gk _ wr => ∃ (m : Nat) (comp' : Nat → Int) (on' : Nat → Bool), p < m ∧ m ≤ sl ∧ gk = m - p ∧ Hid (Popd sk sl c comp on m comp' on') ∧ Hid (CM wr bG B G n idx (lowUp low pn P) comp' on' vis sa m sc sk (some ⟨gp, 0, none⟩) P pc pn pe pf) ∧ Hid (Keep (fun b => B ≤ b) w2 wr))
                                      case atStart => exact ⟨sl, comp, on, hp, Nat.le_refl _, rfl, Popd.start _ _ _ _ _, HM9, HK9⟩
                                      case round =>
                                        as_aux_lemma =>
                                          clear HM9 HK9
                                          obtain ⟨m, comp', on', hpm, hms, rfl, HD, HM, HK⟩ := hrel
                                          obtain ⟨M, rfl⟩ : ∃ M, m = M + 1 := ⟨m - 1, by omega⟩
                                          obtain ⟨gs, rfl, _, rs⟩ := HM.out.vs.blk (by omega)
                                          have es : wr.cell? ⟨gs, M, none⟩ = some (.int .i32 (sk M : Int)) := by have := rs.cell M 0 (by omega) (by omega); simpa using this
                                          have hskn : sk M < n := ((HT6.out.tj.stk (sk M)).2 ⟨M, by omega, rfl⟩).1
                                          have c8 : wr.cell? ⟨B + 8, 0, none⟩ = some (.slice (some ⟨gs, 0, none⟩) (M + 1) sc) := cell_of _ _ 0 _ _ HM.out.bs
                                          have f8 := free_of wr (B + 8) 0 _ _ HM.out.bs
                                          have hcs : M + 1 ≤ sc := HM.out.vs.cap
                                          have hcs2 : (M : Int) ≤ (sc : Int) := by omega
                                          have M5 : (M : Int) < 5 := by omega
                                          have M1 : (M : Int).toNat = M := by omega
                                          obtain ⟨ma, ka⟩ := HM.out.cutStack M (by omega)
                                          have HMa : Hid _ := ma
                                          have HKa : Hid _ := HK.out.trans ka (fun _ q => .inl q)
                                          clear ma ka rs
                                          go_upto_region 42 with fail
                                          clear HM HK es c8 f8 hcs
                                          generalize wr.setCell ⟨B + 8, 0, none⟩ (.slice (some ⟨gs, 0, none⟩) M sc) = wa at *
                                          have co : wa.cell? ⟨B + 6, 0, none⟩ = some (.slice (some ⟨B + 5, 0, none⟩) n n) := cell_of _ _ 0 _ _ HMa.out.bo
                                          have eo := HMa.out.ro.cell (sk M) hskn
                                          have fo := HMa.out.ro.free (sk M)
                                          have s1 : (sk M : Int) < (n : Int) := by omega
                                          have s2 : (sk M : Int).toNat = sk M := by omega
                                          obtain ⟨mb, kb⟩ := HMa.out.setOn (sk M) hskn false
                                          have HMb : Hid _ := mb
                                          have HKb : Hid _ := HKa.out.trans kb (fun _ q => .inl q)
                                          clear mb kb
                                          go_upto_region 43 with fail
                                          clear HMa HKa co eo fo
                                          generalize wa.setCell ⟨B + 5, sk M, none⟩ (.bool false) = wb at *
                                          have ec := HMb.out.rc.cell (sk M) hskn
                                          have fc := HMb.out.rc.free (sk M)
                                          obtain ⟨mc', kc⟩ := HMb.out.setComp (sk M) hskn (c : Int)
                                          have HMc : Hid _ := mc'
                                          have HKc : Hid _ := HKb.out.trans kc (fun _ q => .inl q)
                                          clear mc' kc
                                          go_upto_region 44 with fail
                                          clear HMb HKb ec fc
                                          generalize wb.setCell ⟨B + 4, sk M, none⟩ (.int .i32 (c : Int)) = wd at *
                                          by_cases hMp : M = p
                                          · subst hMp
                                            have q10 : ((sk M : Int) == (pn P : Int)) = true := by have := HPU.out; simp; omega
                                            have hcw : IntKind.i32.wrap ((c : Int) + 1) = (c : Int) + 1 := by unfold IntKind.wrap; simp [IntKind.bits, IntKind.signed]; omega
                                            go_wp2
                                            go_roundg (2 * (n - vis) + P)
                                            case measure => omega
                                            case rel => exact ⟨c + 1, _, _, _, _, _, _, _, _, _, _, _, _, _, _, _, by go_num, rfl, HT6.out.popped hp HPU.out (HD.out.more (by omega)) HMc.out HKc.out (by rw [← HL.out]; exact HEQ.out)⟩
                                          · have hne : sk M ≠ pn P := fun q => by
                                              have := HT6.out.tj.inc p M (by omega) (by omega)
                                              rw [HPU.out, q] at this; omega
                                            have q10 : ((sk M : Int) == (pn P : Int)) = false := by simp; omega
                                            clear hne
                                            go_wp2
                                            go_roundg (M - p)
                                            case measure => omega
                                            case rel => exact ⟨M, _, _, by omega, by omega, rfl, HD.out.more (by omega), HMc, HKc⟩
                                    · have HEQ : Hid _ := heq
                                      have q9 : (L == idx (pn P)) = false := by simpa using heq
                                      clear heq
                                      go_wp2
                                      go_roundg (2 * (n - vis) + P)
                                      case measure => omega
                                      case rel => exact ⟨c, _, _, _, _, _, _, _, _, _, _, _, _, _, _, _, rfl, rfl, HT6.out.leave HM9.out HK9.out (by rw [← HL.out]; exact HEQ.out)⟩
          · have e : r = n := by omega
            subst e
            obtain ⟨bd1, bd2, bd3, bd4⟩ := HT.out.bound
            have HO : Hid (CompOut w wr G r E la lc ga gc FB NX KN ah first next kd ok allow (.returned (.slice (some ⟨B + 4, 0, none⟩) r r))) := by
              have hA2 : Ah w2 r ah' ok' := by have h := HAH2.out; rw [← hB] at h; exact h
              have hsz := HT.out.cm.sz
              have hb12 := HK2.out.size
              refine ⟨B + 4, comp, rfl, by omega, by omega, HT.out.cm.rc, fun i hi => ?_, conn_of HT.out.tj, ah', ok', HGL2.out.keepB HT.out.kp (fun b hb q => by have := HOB.out b hb; omega), hA2.keep HT.out.kp (fun b hb q => by have := HOB.out b (.inr (.inr (.inr (.inr (.inr hb))))); omega), HAL2.out, HOK2.out, fun b hb => ?_, ?_⟩
              · rcases HT.out.tj.cr i hi with q | q <;> omega
              · rcases HGB2.out b hb with q | q
                · exact .inl q
                · exact .inr (by omega)
              · exact ((HK0.out.wide (fun _ q => q.elim)).trans HK2.out (fun _ q => .inl q)).trans HT.out.kp (fun b q => .inr (by omega))
            go_wp2
            go_ret
            exact HO.out
end Go.Proofs.YbulkdvbsGreat

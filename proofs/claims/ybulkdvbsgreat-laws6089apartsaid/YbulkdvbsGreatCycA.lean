/-
  cycleAnomalies, walked over a contract of deps.
-/
import Derived.Test.YbulkdvbsGreatTry
import Derived.Test.YbulkdvbsGreatCycle
namespace Go.Proofs.YbulkdvbsGreat
open Go.RowKit

/-- What a round of deps is told: go on, or stop. -/
def YRes (YI YF : World → (Nat → Prop) → Prop) (D : Nat → Prop) (w w' : World) (e : Ending) : Prop := (∃ r : Bool, e = .returned (.bool r) ∧ (r = true → YI w' D) ∧ (r = false → YF w' D)) ∧ Keep (fun b => ¬ D b) w w'
/-- Block g is cells, none of them frozen. -/
def IsC (w : World) (g : Nat) : Prop := (∃ c t z, w.heap[g]? = some (.cells c t z)) ∧ ∀ i, w.frozen? ⟨g, i, none⟩ = false
theorem Row.isC {w : World} {L n : Nat} {f : Nat → Value} (h : Row w L n f) (h0 : 0 < n) : IsC w L := by
  refine ⟨?_, h.free⟩
  have := h.cell 0 h0
  unfold World.cell? at this
  split at this
  · exact ⟨_, _, _, by assumption⟩
  · simp at this
/-- Behind deps. -/
def DepEnd (DE : Option Nat → World → (Nat → Prop) → Prop) (YI YF : World → (Nat → Prop) → Prop) (GR : Nat) (D : Nat → Prop) (w w' : World) : Prop := ∃ D', (YI w' D' ∨ YF w' D') ∧ DE (some GR) w' D' ∧ (∀ b, D b → D' b) ∧ (∀ b, D' b → D b ∨ w.heap.size ≤ b)
/-- The contract of deps: its own blocks are D; yield's word is YI while it goes on, YF where it has stopped. -/
def DepsC (DE : Option Nat → World → (Nat → Prop) → Prop) (n p1 p2 p3 p4 p5 p6 : Nat) : Prop := ∀ (YI YF : World → (Nat → Prop) → Prop) (_ : ∀ w w' D D', YI w D → Keep D w w' → (∀ b, D' b → D b ∨ (w.heap.size ≤ b ∧ b < w'.heap.size)) → YI w' D')
  (GR : Nat) (gr : Nat → Int) (_ : ∀ w D, YI w D → Row w GR n (fun i => .int .i32 (gr i)) ∧ GR < w.heap.size) (_ : ∀ i, i < n → -1 ≤ gr i ∧ gr i < n) (kinds : Int) (_ : 0 ≤ kinds ∧ kinds ≤ 63) (fn : FuncId) (_ : ∀ (args : Array Value) (W : World), (callFunc fn args).run Ybaz.prog W = .ok (.enter fn args) W) (caps : Array Value)
  (_ : ∀ w D (f t : Nat) (d : Int), YI w D → f < n → t < n → (d = 2 ∨ d = 4) → bits .and .u8 kinds d ≠ 0 → Calls Ybaz.prog fn (#[.int .i64 (f : Int), .int .i64 (t : Int), .int .u8 d] ++ caps) w fun e w' => YRes YI YF D w w' e) (w : World) (D : Nat → Prop) (_ : YI w D) (q : Option Nat) (_ : ∀ g, q = some g → IsC w g) (_ : DE q w D),
  Calls Ybaz.prog 54 #[.slice (some ⟨GR, 0, none⟩) n n, .int .u8 kinds, .func (.func fn) #[] caps, .pointer (some ⟨p1, 0, none⟩), .pointer (some ⟨p2, 0, none⟩), .pointer (some ⟨p3, 0, none⟩), .pointer (some ⟨p4, 0, none⟩), .pointer (some ⟨p5, 0, none⟩), .pointer (some ⟨p6, 0, none⟩)] w fun e w' => e = .returned (.tuple #[]) ∧ DepEnd DE YI YF GR D w w'
/-- Behind cycleAnomalies. -/
def CAOut (w w' : World) (G : Nat) (D0 : Nat → Prop) (e : Ending) : Prop := ∃ fa fl fc F, e = .returned (.slice fa fl fc) ∧ Vec w' 157 4 fa fl fc F ∧ (∀ i, i < fl → AnOk (F i)) ∧ fl ≤ 5 ∧ (∀ b, fa = some ⟨b, 0, none⟩ → w.heap.size ≤ b) ∧ Keep (fun b => b = G ∨ D0 b) w w'

/-- How things stand between the rounds: D are the blocks of deps. -/
structure J1 (w : World) (D0 : Nat → Prop) (G n E : Nat) (la : Option Addr) (lc : Nat) (ga : Option Addr) (gc FB NX KN : Nat) (ah : Value) (first : Nat → Nat) (next kd : Nat → Int) (b5 TX tc : Nat) (tx : Nat → Int) (b6 CO : Nat) (comp : Nat → Int) (b10 b11 b12 S b13 FL : Nat) (flow : Nat → Int) (RE PA VI : Nat) (fl : Nat) (fb : Option Addr) (wx : World) (D : Nat → Prop) : Prop where
  ew : EW G n E la lc ga gc FB NX KN ah first next kd b5 TX tc tx b6 CO comp b10 b11 b12 S b13 FL flow wx
  mw : MW wx b10 fb fl S G n RE PA VI
  dis : ∀ b, eB G n ga FB NX KN ah b5 TX b6 CO b11 b12 b13 FL b → ¬ mB b10 fb S RE PA VI b
  d1 : ∀ b, eB G n ga FB NX KN ah b5 TX b6 CO b11 b12 b13 FL b → ¬ D b
  d2 : ∀ b, mB b10 fb S RE PA VI b → ¬ D b
  dl : ∀ b, D b → b < wx.heap.size
  dd : ∀ b, D b → D0 b ∨ w.heap.size ≤ b
  mn : ∀ b, mB b10 fb S RE PA VI b → w.heap.size ≤ b
  kp : Keep (fun b => b = G ∨ D0 b) w wx
section
variable {w : World} {D0 : Nat → Prop} {G n E : Nat} {la : Option Addr} {lc : Nat} {ga : Option Addr} {gc FB NX KN : Nat} {ah : Value} {first : Nat → Nat} {next kd : Nat → Int} {b5 TX tc : Nat} {tx : Nat → Int} {b6 CO : Nat} {comp : Nat → Int} {b10 b11 b12 S b13 FL : Nat} {flow : Nat → Int} {RE PA VI fl : Nat} {fb : Option Addr} {wx w' : World} {D D' : Nat → Prop}
theorem J1.step (h : J1 w D0 G n E la lc ga gc FB NX KN ah first next kd b5 TX tc tx b6 CO comp b10 b11 b12 S b13 FL flow RE PA VI fl fb wx D) (k : Keep D wx w') (hD : ∀ b, D' b → D b ∨ (wx.heap.size ≤ b ∧ b < w'.heap.size)) : J1 w D0 G n E la lc ga gc FB NX KN ah first next kd b5 TX tc tx b6 CO comp b10 b11 b12 S b13 FL flow RE PA VI fl fb w' D' := by
  have hs := k.size
  have hs0 := h.kp.size
  refine ⟨h.ew.keep k h.d1, h.mw.keep k h.d2, h.dis, fun b hb q => ?_, fun b hb q => ?_, fun b q => ?_, fun b q => ?_, h.mn, h.kp.trans k (fun b q => ?_)⟩
  · rcases hD b q with r | r
    · exact h.d1 b hb r
    · have := h.ew.lt b hb; omega
  · rcases hD b q with r | r
    · exact h.d2 b hb r
    · have := h.mw.lt b hb; omega
  · rcases hD b q with r | r
    · have := h.dl b r; omega
    · omega
  · rcases hD b q with r | r
    · exact h.dd b r
    · exact .inr (by omega)
  · rcases h.dd b q with r | r
    · exact .inl (.inr r)
    · exact .inr r
theorem J1.keepF (h : J1 w D0 G n E la lc ga gc FB NX KN ah first next kd b5 TX tc tx b6 CO comp b10 b11 b12 S b13 FL flow RE PA VI fl fb wx D) (k : Keep (fun _ => False) wx w') : J1 w D0 G n E la lc ga gc FB NX KN ah first next kd b5 TX tc tx b6 CO comp b10 b11 b12 S b13 FL flow RE PA VI fl fb w' D :=
  h.step (k.wide (fun _ q => q.elim)) (fun _ q => .inl q)
/-- The components have been asked for once more. -/
theorem J1.comp' {allow : Int} (h : J1 w D0 G n E la lc ga gc FB NX KN ah first next kd b5 TX tc tx b6 CO comp b10 b11 b12 S b13 FL flow RE PA VI fl fb wx D) (hk : Kept wx w' G n E la lc ga gc FB NX KN ah first next kd true allow) (hne : ∀ b, (b = b5 ∨ b = TX ∨ b = b6 ∨ b = CO ∨ b = b11 ∨ b = b12 ∨ b = b13 ∨ b = FL ∨ mB b10 fb S RE PA VI b) → b ≠ G) :
    ∃ ah', J1 w D0 G n E la lc ga gc FB NX KN ah' first next kd b5 TX tc tx b6 CO comp b10 b11 b12 S b13 FL flow RE PA VI fl fb w' D ∧ Keep (fun b => b = G) wx w' := by
  obtain ⟨ah', ok', g1, g2, _, g4, g5, g6⟩ := hk
  have hok : ok' = true := g4 rfl
  subst hok
  have hs := g6.size
  have e := h.ew
  have hle : ∀ b, eB G n ga FB NX KN ah' b5 TX b6 CO b11 b12 b13 FL b → eB G n ga FB NX KN ah b5 TX b6 CO b11 b12 b13 FL b ∨ (wx.heap.size ≤ b ∧ b < w'.heap.size) := by
    rintro b (q | q)
    · rcases g5 b q with r | r
      · exact .inl (.inl r)
      · refine .inr ⟨r, ?_⟩
        obtain ⟨l1, l2, l3⟩ := g1.lt
        have l0 := heap_lt g1.blk
        rcases q with q | q | q | q | q | q
        · omega
        · exact g1.vg.lt q
        · omega
        · omega
        · omega
        · rcases g2 with ⟨t, _⟩ | ⟨_, AH, t, _, t2⟩
          · cases t
          · rw [t] at q; injection q with q; injection q with q; injection q with q; omega
    · exact .inl (.inr q)
  refine ⟨ah', ⟨⟨g1, g2, g6.at e.t5 (hne _ (.inl rfl)), e.rx.keep (g6.block _ (e.lt _ (.inr (.inr (.inl rfl)))) (hne _ (.inr (.inl rfl)))), g6.at e.c6 (hne _ (.inr (.inr (.inl rfl)))), e.rc.keep (g6.block _ (e.lt _ (.inr (.inr (.inr (.inr (.inl rfl)))))) (hne _ (.inr (.inr (.inr (.inl rfl)))))), g6.at e.c11 (hne _ (.inr (.inr (.inr (.inr (.inl rfl)))))), g6.at e.c12 (hne _ (.inr (.inr (.inr (.inr (.inr (.inl rfl))))))), g6.at e.c13 (hne _ (.inr (.inr (.inr (.inr (.inr (.inr (.inl rfl)))))))), e.rf.keep (g6.block _ (e.lt _ (.inr (.inr (.inr (.inr (.inr (.inr (.inr (.inr rfl))))))))) (hne _ (.inr (.inr (.inr (.inr (.inr (.inr (.inr (.inl rfl)))))))))), fun b hb => ?_, e.hn, e.hE⟩, h.mw.keep g6 (fun b hb q => hne b (.inr (.inr (.inr (.inr (.inr (.inr (.inr (.inr hb)))))))) q), fun b hb q => ?_, fun b hb q => ?_, h.d2, fun b q => Nat.lt_of_lt_of_le (h.dl b q) hs, h.dd, h.mn, h.kp.trans g6 (fun b q => .inl (.inl q))⟩, g6⟩
  · rcases hle b hb with r | r
    · exact Nat.lt_of_lt_of_le (e.lt b r) hs
    · exact r.2
  · rcases hle b hb with r | r
    · exact h.dis b r q
    · have := h.mw.lt b q; omega
  · rcases hle b hb with r | r
    · exact h.d1 b r q
    · have := h.dl b q; omega
/-- The same, seen from a later world. -/
structure JB (w9 : World) (D0 : Nat → Prop) (G b10 S RE PA VI : Nat) (fb : Option Addr) (wx : World) (D : Nat → Prop) : Prop where
  dd : ∀ b, D b → D0 b ∨ w9.heap.size ≤ b
  hf : ∀ b, fb = some ⟨b, 0, none⟩ → w9.heap.size ≤ b
  kp : Keep (fun b => b = G ∨ b = b10 ∨ sOwn S RE PA VI b ∨ D0 b) w9 wx
theorem JB.step {w9 : World} (h : JB w9 D0 G b10 S RE PA VI fb wx D) (k : Keep D wx w') (hD : ∀ b, D' b → D b ∨ (wx.heap.size ≤ b ∧ b < w'.heap.size)) : JB w9 D0 G b10 S RE PA VI fb w' D' := by
  have hs := h.kp.size
  refine ⟨fun b q => ?_, h.hf, h.kp.trans k (fun b q => ?_)⟩
  · rcases hD b q with r | r
    · exact h.dd b r
    · exact .inr (by omega)
  · rcases h.dd b q with r | r
    · exact .inl (.inr (.inr (.inr r)))
    · exact .inr r
theorem JB.start (w9 : World) (D0 : Nat → Prop) (G b10 S RE PA VI : Nat) : JB w9 D0 G b10 S RE PA VI none w9 D0 := ⟨fun _ q => .inl q, nofun, Keep.refl _ _⟩
theorem JB.keepG {w9 : World} (h : JB w9 D0 G b10 S RE PA VI fb wx D) (k : Keep (fun b => b = G) wx w') : JB w9 D0 G b10 S RE PA VI fb w' D := ⟨h.dd, h.hf, h.kp.trans k (fun _ q => .inl (.inl q))⟩
theorem J1.both {w9 : World} {fl' : Nat} (h : J1 w D0 G n E la lc ga gc FB NX KN ah first next kd b5 TX tc tx b6 CO comp b10 b11 b12 S b13 FL flow RE PA VI fl fb wx D) (hb : JB w9 D0 G b10 S RE PA VI fb wx D) (hm : MNext wx w' b10 fb fl' S G n RE PA VI) : (∃ fb', J1 w D0 G n E la lc ga gc FB NX KN ah first next kd b5 TX tc tx b6 CO comp b10 b11 b12 S b13 FL flow RE PA VI fl' fb' w' D ∧ JB w9 D0 G b10 S RE PA VI fb' w' D) ∧ Keep (fun b => ¬ D b) wx w' := by
  obtain ⟨fb', h1, h2, h3⟩ := hm
  have hs9 := hb.kp.size
  have hs0 := h.kp.size
  refine ⟨⟨fb', ⟨h.ew.keep h3 h.dis, h1, fun b hb q => ?_, h.d1, fun b hb q => ?_, fun b q => Nat.lt_of_lt_of_le (h.dl b q) h3.size, h.dd, fun b hb => ?_, h.kp.trans h3 (fun b q => .inr (h.mn b q))⟩, ⟨hb.dd, fun b q => ?_, hb.kp.trans h3 (fun b q => ?_)⟩⟩, h3.wide (fun b q => h.d2 b q)⟩
  · rcases q with q | q | q
    · exact h.dis b hb (.inl q)
    · rcases h2 with r | ⟨b', r, r2⟩
      · rw [r] at q; exact h.dis b hb (.inr (.inl q))
      · rw [r] at q; injection q with q; injection q with q
        have := h.ew.lt b hb; omega
    · exact h.dis b hb (.inr (.inr q))
  · rcases hb with r | r | r
    · exact h.d2 b (.inl r) q
    · rcases h2 with s | ⟨b', s, s2⟩
      · rw [s] at r; exact h.d2 b (.inr (.inl r)) q
      · rw [s] at r; injection r with r; injection r with r
        have := h.dl b q; omega
    · exact h.d2 b (.inr (.inr r)) q
  · rcases hb with r | r | r
    · exact h.mn b (.inl r)
    · rcases h2 with s | ⟨b', s, s2⟩
      · rw [s] at r; exact h.mn b (.inr (.inl r))
      · rw [s] at r; injection r with r; injection r with r; omega
    · exact h.mn b (.inr (.inr r))
  · rcases h2 with r | ⟨b', r, r2⟩
    · rw [r] at q; exact hb.hf b q
    · rw [r] at q; injection q with q; injection q with q; omega
  · rcases q with q | q | q
    · exact .inl (.inr (.inl q))
    · exact .inr (hb.hf b q)
    · exact .inl (.inr (.inr (.inl q)))
/-- .. with what try has besides. -/
structure J2 (w : World) (D0 : Nat → Prop) (G n E : Nat) (la : Option Addr) (lc : Nat) (ga : Option Addr) (gc FB NX KN : Nat) (ah : Value) (first : Nat → Nat) (next kd : Nat → Int) (b5 TX tc : Nat) (tx : Nat → Int) (b6 CO : Nat) (comp : Nat → Int) (b10 b11 b12 S b13 FL : Nat) (flow : Nat → Int) (RE PA VI : Nat) (b17 b18 IT b19 b20 b21 : Nat) (item : Nat → Int) (fl : Nat) (fb : Option Addr) (sg sw : Bool) (wx : World) (D : Nat → Prop) : Prop where
  j : J1 w D0 G n E la lc ga gc FB NX KN ah first next kd b5 TX tc tx b6 CO comp b10 b11 b12 S b13 FL flow RE PA VI fl fb wx D
  c17 : wx.heap[b17]? = some (.cells #[.func (.func 146) #[] #[.pointer (some ⟨b13, 0, none⟩), .pointer (some ⟨b12, 0, none⟩), .pointer (some ⟨b6, 0, none⟩)]] 247)
  c18 : wx.heap[b18]? = some (.cells #[.slice (some ⟨IT, 0, none⟩) n n] 95)
  ri : Row wx IT n (fun i => .int .i32 (item i))
  fw : FW wx b19 b20 b21 sg sw false
  x1 : ∀ b, (b = b17 ∨ b = b18 ∨ b = IT) → ¬ mB b10 fb S RE PA VI b ∧ b ≠ b19 ∧ b ≠ b20 ∧ ¬ D b ∧ b < wx.heap.size
  x2 : ∀ b, eB G n ga FB NX KN ah b5 TX b6 CO b11 b12 b13 FL b → b ≠ b19 ∧ b ≠ b20
  x3 : ∀ b, mB b10 fb S RE PA VI b → b ≠ b19 ∧ b ≠ b20 ∧ b ≠ b21
  x4 : ∀ b, (b = b19 ∨ b = b20 ∨ b = b21) → ¬ D b ∧ b < wx.heap.size ∧ w.heap.size ≤ b
  bd : fl + bn sg + bn sw ≤ 4
section
variable {b17 b18 IT b19 b20 b21 : Nat} {item : Nat → Int} {sg sw : Bool}
theorem J2.step (h : J2 w D0 G n E la lc ga gc FB NX KN ah first next kd b5 TX tc tx b6 CO comp b10 b11 b12 S b13 FL flow RE PA VI b17 b18 IT b19 b20 b21 item fl fb sg sw wx D) (k : Keep D wx w') (hD : ∀ b, D' b → D b ∨ (wx.heap.size ≤ b ∧ b < w'.heap.size)) : J2 w D0 G n E la lc ga gc FB NX KN ah first next kd b5 TX tc tx b6 CO comp b10 b11 b12 S b13 FL flow RE PA VI b17 b18 IT b19 b20 b21 item fl fb sg sw w' D' := by
  have hs := k.size
  refine ⟨h.j.step k hD, k.at h.c17 (h.x1 _ (.inl rfl)).2.2.2.1, k.at h.c18 (h.x1 _ (.inr (.inl rfl))).2.2.2.1, h.ri.keep (k.block IT (h.x1 IT (.inr (.inr rfl))).2.2.2.2 (h.x1 IT (.inr (.inr rfl))).2.2.2.1), h.fw.keep k (fun b hb => (h.x4 b hb).1), fun b hb => ?_, h.x2, h.x3, fun b hb => ?_, h.bd⟩
  · obtain ⟨q1, q2, q3, q4, q5⟩ := h.x1 b hb
    refine ⟨q1, q2, q3, fun q => ?_, by omega⟩
    rcases hD b q with r | r
    · exact q4 r
    · omega
  · obtain ⟨q1, q2, q3⟩ := h.x4 b hb
    refine ⟨fun q => ?_, by omega, q3⟩
    rcases hD b q with r | r
    · exact q1 r
    · omega
theorem J2.turn (h : J2 w D0 G n E la lc ga gc FB NX KN ah first next kd b5 TX tc tx b6 CO comp b10 b11 b12 S b13 FL flow RE PA VI b17 b18 IT b19 b20 b21 item fl fb sg sw wx D) (hm : TNext wx w' b10 fb fl S G n RE PA VI b19 b20 b21 sg sw false) :
    (∃ fl' fb' sg' sw', J2 w D0 G n E la lc ga gc FB NX KN ah first next kd b5 TX tc tx b6 CO comp b10 b11 b12 S b13 FL flow RE PA VI b17 b18 IT b19 b20 b21 item fl' fb' sg' sw' w' D) ∧ Keep (fun b => ¬ D b) wx w' := by
  obtain ⟨fb', fl', sg', sw', h1, h2, h3, h4, h5⟩ := hm
  have hs := h4.size
  have hs0 := h.j.kp.size
  have hmB : ∀ b, mB b10 fb' S RE PA VI b → mB b10 fb S RE PA VI b ∨ wx.heap.size ≤ b := by
    rintro b (r | r | r)
    · exact .inl (.inl r)
    · rcases h2 with s | ⟨b', s, s2⟩
      · rw [s] at r; exact .inl (.inr (.inl r))
      · rw [s] at r; injection r with r; injection r with r; exact .inr (by omega)
    · exact .inl (.inr (.inr r))
  have hF : ∀ b, (mB b10 fb S RE PA VI b ∨ b = b19 ∨ b = b20) → w.heap.size ≤ b ∧ ¬ D b := by
    rintro b (r | r | r)
    · exact ⟨h.j.mn b r, h.j.d2 b r⟩
    · have := h.x4 b (.inl r); exact ⟨this.2.2, this.1⟩
    · have := h.x4 b (.inr (.inl r)); exact ⟨this.2.2, this.1⟩
  refine ⟨⟨fl', fb', sg', sw', ⟨h.j.ew.keep h4 (fun b hb q => ?_), h1, fun b hb q => ?_, h.j.d1, fun b hb q => ?_, fun b q => Nat.lt_of_lt_of_le (h.j.dl b q) hs, h.j.dd, fun b hb => ?_, h.j.kp.trans h4 (fun b q => .inr (hF b q).1)⟩, h4.at h.c17 ?_, h4.at h.c18 ?_, h.ri.keep (h4.block IT (h.x1 IT (.inr (.inr rfl))).2.2.2.2 ?_), h3, fun b hb => ?_, h.x2, fun b hb => ?_, fun b hb => ?_, by have := h.bd; omega⟩, h4.wide (fun b q => (hF b q).2)⟩
  · rcases q with q | q
    · exact h.j.dis b hb q
    · have := h.x2 b hb; omega
  · rcases hmB b q with r | r
    · exact h.j.dis b hb r
    · have := h.j.ew.lt b hb; omega
  · rcases hmB b hb with r | r
    · exact h.j.d2 b r q
    · have := h.j.dl b q; omega
  · rcases hmB b hb with r | r
    · exact h.j.mn b r
    · omega
  · rintro (q | q)
    · exact (h.x1 _ (.inl rfl)).1 q
    · have := h.x1 _ (.inl rfl); omega
  · rintro (q | q)
    · exact (h.x1 _ (.inr (.inl rfl))).1 q
    · have := h.x1 _ (.inr (.inl rfl)); omega
  · rintro (q | q)
    · exact (h.x1 _ (.inr (.inr rfl))).1 q
    · have := h.x1 _ (.inr (.inr rfl)); omega
  · obtain ⟨q1, q2, q3, q4, q5⟩ := h.x1 b hb
    refine ⟨fun q => ?_, q2, q3, q4, by omega⟩
    rcases hmB b q with r | r
    · exact q1 r
    · omega
  · rcases hmB b hb with r | r
    · exact h.x3 b r
    · have y1 := h.x4 b19 (.inl rfl)
      have y2 := h.x4 b20 (.inr (.inl rfl))
      have y3 := h.x4 b21 (.inr (.inr rfl))
      omega
  · obtain ⟨q1, q2, q3⟩ := h.x4 b hb
    exact ⟨q1, by omega, q3⟩
end
end
/-- 'x[1:]'. -/
theorem src_tail {w : World} {A m q : Nat} {y : Nat → Value} (hm : m ≤ q) (h : ∀ i, i < m → w.cell? ⟨A, 1 + i, none⟩ = some (y i)) : Src1 w (.slice (if q = 0 then some ⟨A, 0, none⟩ else some ⟨A, 1, none⟩) m q) m y := by
  by_cases e : q = 0
  · simp only [e, if_true]; exact .inr ⟨A, 0, 0, rfl, fun i hi => by omega⟩
  · simp only [e, if_false]; exact .inr ⟨A, 1, q, rfl, h⟩
/-- A box of one cell is laid. -/
theorem mkb (W : World) (x : Value) (t : TypeId) : (W.alloc (.cells #[x] t)).heap[W.heap.size]? = some (.cells #[x] t) ∧ Keep (fun _ => False) W (W.alloc (.cells #[x] t)) ∧ W.heap.size < (W.alloc (.cells #[x] t)).heap.size := ⟨heap_alloc_new _ _, Keep.alloc _ _ _, by rw [World.size_alloc]; omega⟩

set_option maxHeartbeats 8000000 in
set_option maxRecDepth 100000 in
theorem cycA_any (DE : Option Nat → World → (Nat → Prop) → Prop) (p1 p2 p3 p4 p5 p6 : Nat) (G n E : Nat) (la : Option Addr) (lc : Nat) (ga : Option Addr) (gc FB NX KN : Nat) (first : Nat → Nat) (next kd : Nat → Int) (TX tc : Nat) (tx : Nat → Int) (CO : Nat) (comp : Nat → Int) (D0 : Nat → Prop) (ah0 : Value) (ok0 : Bool) (w : World)
    (hdeps : DepsC DE n p1 p2 p3 p4 p5 p6) (hde : ∀ q w w' D, DE q w D → Keep (fun b => ¬ D b) w w' → DE q w' D) (hD : DE none w D0) (hn : n ≤ 5) (hn0 : 0 < n) (hE : E ≤ 100000) (hgl : GL w G n E la lc ga gc FB NX KN ah0 first next kd) (ha0 : Ah w n ah0 ok0) (hG : G ≠ FB ∧ G ≠ NX ∧ G ≠ KN)
    (hrx : Row w TX n (fun i => .int .u64 (tx i))) (hTX : TX < w.heap.size) (hrc : Row w CO n (fun i => .int .i32 (comp i))) (hCO : CO < w.heap.size) (hcr : ∀ i, i < n → -1 ≤ comp i ∧ comp i < n) (hDG : ∀ b, (gBlk G ga FB NX KN n ah0 b ∨ b = TX ∨ b = CO) → ¬ D0 b) (hDl : ∀ b, D0 b → b < w.heap.size) (hGT : G ≠ TX ∧ G ≠ CO) :
    Calls Ybaz.prog 70 #[.pointer (some ⟨G, 0, none⟩), .slice (some ⟨TX, 0, none⟩) n tc, .slice (some ⟨CO, 0, none⟩) n n, .func (.func 54) #[] #[.pointer (some ⟨p1, 0, none⟩), .pointer (some ⟨p2, 0, none⟩), .pointer (some ⟨p3, 0, none⟩), .pointer (some ⟨p4, 0, none⟩), .pointer (some ⟨p5, 0, none⟩), .pointer (some ⟨p6, 0, none⟩)]] w fun e w' => CAOut w w' G D0 e := by
  have n1 : (n : Int) ≤ 5 := by omega
  have HAH0 : Hid _ := ha0
  clear ha0
  obtain ⟨x5, k5, l5⟩ := mkb w (.slice (some ⟨TX, 0, none⟩) n tc) 38
  obtain ⟨x6, k6, l6⟩ := mkb (w.alloc (.cells #[.slice (some ⟨TX, 0, none⟩) n tc] 38)) (.slice (some ⟨CO, 0, none⟩) n n) 95
  have s5 : (w.alloc (.cells #[.slice (some ⟨TX, 0, none⟩) n tc] 38)).heap.size = w.heap.size + 1 := World.size_alloc _ _
  rw [s5] at x6 l6
  have HB5 : Hid (((w.alloc (.cells #[.slice (some ⟨TX, 0, none⟩) n tc] 38)).alloc (.cells #[.slice (some ⟨CO, 0, none⟩) n n] 95)).heap[w.heap.size]? = some (.cells #[.slice (some ⟨TX, 0, none⟩) n tc] 38)) := k6.at x5 id
  have HB6 : Hid _ := x6
  have HK1 : Hid (Keep (fun _ => False) w ((w.alloc (.cells #[.slice (some ⟨TX, 0, none⟩) n tc] 38)).alloc (.cells #[.slice (some ⟨CO, 0, none⟩) n n] 95))) := k5.trans k6 (fun _ q => q.elim)
  have HDE : Hid _ := hD
  have HDP : Hid _ := hdeps
  have HDS : Hid _ := hde
  have HGL : Hid _ := hgl
  have HRX : Hid _ := hrx
  have HRC : Hid _ := hrc
  have HCR : Hid _ := hcr
  have HDG : Hid _ := hDG
  have HDl : Hid _ := hDl
  clear x5 k5 l5 x6 k6 s5 hD hdeps hde hgl hrx hrc hcr hDG hDl
  go_enter Ybaz.func70, Ybaz.ntmps70
  go_upto_region 1 with fail
  generalize ((w.alloc (.cells #[.slice (some ⟨TX, 0, none⟩) n tc] 38)).alloc (.cells #[.slice (some ⟨CO, 0, none⟩) n n] 95)) = w1 at *
  obtain ⟨b5, Hb5⟩ : ∃ b, Hid (b = w.heap.size) := ⟨_, rfl⟩
  rw [← Hb5.out] at HB5 HB6 l6 ⊢
  have c6 : w1.cell? ⟨b5 + 1, 0, none⟩ = some (.slice (some ⟨CO, 0, none⟩) n n) := cell_of _ _ 0 _ _ HB6.out
  have HCY := fun _ : Unit => cyclic_any CO n n comp w1 hn (HRC.out.keep (HK1.out.block CO hCO id)) (Nat.lt_of_lt_of_le hCO HK1.out.size) HCR.out
  go_upto_region 2 with (first
    | (go_at_call 137; refine (HCY ()).mono ?_; clear HCY; rintro e w2 ⟨⟨CY, rfl, hcy1, hcy2, hcy3⟩, hk2⟩))
  have HY2 : Hid _ := hcy3
  have HK2 : Hid _ := hk2
  clear hcy3 hk2 c6
  have HCT := fun _ : Unit => containsB CY n n _ w2 (by omega) HY2.out.cell
  go_wp2_with (first
    | (go_at_call 140; refine (HCT ()).mono ?_; clear HCT; rintro e w3 ⟨⟨r, rfl, hr⟩, rfl⟩))
  · go_ret
    exact ⟨none, 0, 0, fun _ _ => .int .u8 0, rfl, Vec.nil _ _ _ _, fun i hi => by omega, by omega, nofun, ((HK1.out.trans HK2.out (fun _ q => q.elim)).wide (fun _ q => q.elim))⟩
  · obtain ⟨x10, k10, l10⟩ := mkb w2 (.slice none 0 0) 39
    obtain ⟨x11, k11, l11⟩ := mkb (w2.alloc (.cells #[.slice none 0 0] 39)) (.func (.func 141) #[] #[.pointer (some ⟨b5, 0, none⟩), .pointer (some ⟨w2.heap.size, 0, none⟩)]) 246
    have s10 : (w2.alloc (.cells #[.slice none 0 0] 39)).heap.size = w2.heap.size + 1 := World.size_alloc _ _
    rw [s10] at x11 l11
    have HB10 : Hid _ := k11.at x10 id
    have HB11 : Hid _ := x11
    have HK4 : Hid _ := k10.trans k11 (fun _ q => q.elim)
    clear x10 k10 l10 x11 k11 s10 hr
    generalize ((w2.alloc (.cells #[.slice none 0 0] 39)).alloc (.cells #[.func (.func 141) #[] #[.pointer (some ⟨b5, 0, none⟩), .pointer (some ⟨w2.heap.size, 0, none⟩)]] 246)) = w4 at *
    obtain ⟨b10, Hb10⟩ : ∃ b, Hid (b = w2.heap.size) := ⟨_, rfl⟩
    rw [← Hb10.out] at HB10 HB11 l11 ⊢
    have K04 : Keep (fun _ => False) w w4 := (HK1.out.trans HK2.out (fun _ q => q.elim)).trans HK4.out (fun _ q => q.elim)
    have HK04 : Hid _ := K04
    have gl4 := HGL.out.keep K04 id (fun _ _ q => q) id id id
    have HG4 : Hid _ := gl4
    refine (newSr_any G n lc la w4 hn (cell_of w4 G 1 _ _ gl4.blk)).mono ?_
    clear K04 gl4
    rintro e w5 ⟨⟨S, RE, PA, VI, rfl, hsr, s1, s2, s3, s4⟩, hk5⟩
    have HSR : Hid _ := hsr
    have HK5 : Hid _ := hk5
    clear hsr hk5
    obtain ⟨x12, k12, l12⟩ := mkb w5 (.pointer (some ⟨S, 0, none⟩)) 239
    have HB12 : Hid _ := x12
    have HK6 : Hid _ := k12
    clear x12 k12
    go_upto_region 7 with fail
    generalize w5.alloc (.cells #[.pointer (some ⟨S, 0, none⟩)] 239) = w6 at *
    obtain ⟨b12, Hb12⟩ : ∃ b, Hid (b = w5.heap.size) := ⟨_, rfl⟩
    rw [← Hb12.out] at HB12 l12 ⊢
    have K46 : Keep (fun _ => False) w4 w6 := HK5.out.trans HK6.out (fun _ q => q.elim)
    have HK46 : Hid _ := K46
    have K26 : Keep (fun _ => False) w2 w6 := HK4.out.trans K46 (fun _ q => q.elim)
    have HCP := fun _ : Unit => components_any G n E la lc ga gc FB NX KN ah0 first next kd 27 ok0 (.slice (some ⟨CY, 0, none⟩) n n) CY _ w6 (HG4.out.keep K46 id (fun _ _ q => q) id id id) (Ah.keep HAH0.out (HK1.out.trans (HK2.out.trans K26 (fun _ q => q.elim)) (fun _ q => q.elim)) (fun _ _ q => q)) hn hE hG (.inr ⟨by decide, by decide⟩) (.inr ⟨rfl, HY2.out.keep (K26.block CY hcy2 id), Nat.lt_of_lt_of_le hcy2 K26.size⟩)
    clear K46 K26
    go_upto_region 8 with (first
      | (go_at_call 68; refine (HCP ()).mono ?_; clear HCP; rintro e w7 ⟨FL, flow, rfl, hfl1, hfl2, hfl3, hfl4, _, ah, ok, hgl7, hah7, hok7, _, hgb7, hk7⟩))
    have hok : ok = true := hok7.resolve_left (by decide)
    subst hok
    have HG7 : Hid _ := hgl7
    have HA7 : Hid _ := hah7
    have HGB7 : Hid _ := hgb7
    have HK7 : Hid _ := hk7
    have HF7 : Hid _ := hfl3
    have HFC : Hid _ := hfl4
    clear hgl7 hah7 hgb7 hk7 hfl3 hfl4 hok7
    obtain ⟨x13, k13, l13⟩ := mkb w7 (.slice (some ⟨FL, 0, none⟩) n n) 95
    have HB13 : Hid _ := x13
    have HK8 : Hid _ := k13
    clear x13 k13
    generalize w7.alloc (.cells #[.slice (some ⟨FL, 0, none⟩) n n] 95) = w8 at *
    obtain ⟨b13, Hb13⟩ : ∃ b, Hid (b = w7.heap.size) := ⟨_, rfl⟩
    rw [← Hb13.out] at HB13 l13 ⊢
    have c13 : w8.cell? ⟨b13, 0, none⟩ = some (.slice (some ⟨FL, 0, none⟩) n n) := cell_of _ _ 0 _ _ HB13.out
    have HCY := fun _ : Unit => cyclic_any FL n n flow w8 hn (HF7.out.keep (HK8.out.block FL hfl2 id)) (Nat.lt_of_lt_of_le hfl2 HK8.out.size) HFC.out
    go_upto_region 9 with (first
      | (go_at_call 137; refine (HCY ()).mono ?_; clear HCY; rintro e w9 ⟨⟨CZ, rfl, hcz1, hcz2, hcz3⟩, hk9⟩))
    have HZ9 : Hid _ := hcz3
    have HK9 : Hid _ := hk9
    clear hcz3 hk9 c13
    have z1 := HK1.out.size
    have z2 := HK2.out.size
    have z4 := HK4.out.size
    have z5 := HK5.out.size
    have z6 := HK6.out.size
    have z7 := HK7.out.size
    have z8 := HK8.out.size
    have z9 := HK9.out.size
    have y5 := Hb5.out
    have y10 := Hb10.out
    have y12 := Hb12.out
    have y13 := Hb13.out
    have hGw := heap_lt HGL.out.blk
    have HJ9 : Hid (J1 w D0 G n E la lc ga gc FB NX KN ah first next kd b5 TX tc tx (b5 + 1) CO comp b10 (b10 + 1) b12 S b13 FL flow RE PA VI 0 none w9 D0) := by
      have k79 : Keep (fun b => b = G) w7 w9 := (HK8.out.trans HK9.out (fun _ q => q.elim)).wide (fun _ q => q.elim)
      have k69 := HK7.out.trans k79 (fun _ q => .inl q)
      have k59 : Keep (fun b => b = G) w5 w9 := (HK6.out.wide (fun _ q => q.elim)).trans k69 (fun _ q => .inl q)
      have k49 : Keep (fun b => b = G) w4 w9 := (HK5.out.wide (fun _ q => q.elim)).trans k59 (fun _ q => .inl q)
      have k29 : Keep (fun b => b = G) w2 w9 := (HK4.out.wide (fun _ q => q.elim)).trans k49 (fun _ q => .inl q)
      have k19 : Keep (fun b => b = G) w1 w9 := (HK2.out.wide (fun _ q => q.elim)).trans k29 (fun _ q => .inl q)
      have k09 : Keep (fun b => b = G) w w9 := (HK1.out.wide (fun _ q => q.elim)).trans k19 (fun _ q => .inl q)
      have hA7 : Ah w7 n ah true := by
        rcases HA7.out with ⟨q, _⟩ | ⟨_, q⟩
        · cases q
        · exact .inr ⟨rfl, q⟩
      have k79f : Keep (fun _ => False) w7 w9 := HK8.out.trans HK9.out (fun _ q => q.elim)
      have own : ∀ b, sOwn S RE PA VI b → w4.heap.size ≤ b ∧ b < w5.heap.size := fun b hb => ⟨(by rcases hb with q | q | q | q <;> omega), HSR.out.own b hb⟩
      have gb : ∀ b, gBlk G ga FB NX KN n ah b → (gBlk G ga FB NX KN n ah0 b ∧ b < w.heap.size) ∨ (w6.heap.size ≤ b ∧ b < w7.heap.size) := by
        intro b hb
        rcases HGB7.out b hb with r | r
        · refine .inl ⟨r, ?_⟩
          obtain ⟨l1, l2, l3⟩ := HGL.out.lt
          rcases r with q | q | q | q | q | q
          · omega
          · exact HGL.out.vg.lt q
          · omega
          · omega
          · omega
          · rcases HAH0.out with ⟨_, t⟩ | ⟨_, AH, t, _, t2⟩
            · rw [t] at q; unfold vnil at q; injection q with q; cases q
            · rw [t] at q; injection q with q; injection q with q; injection q with q; omega
        · refine .inr ⟨r, ?_⟩
          obtain ⟨l1, l2, l3⟩ := HG7.out.lt
          have l0 := heap_lt HG7.out.blk
          rcases hb with q | q | q | q | q | q
          · omega
          · exact HG7.out.vg.lt q
          · omega
          · omega
          · omega
          · rcases HA7.out with ⟨t, _⟩ | ⟨_, AH, t, _, t2⟩
            · cases t
            · rw [t] at q; injection q with q; injection q with q; injection q with q; omega
      have ebl : ∀ b, eB G n ga FB NX KN ah b5 TX (b5 + 1) CO (b10 + 1) b12 b13 FL b → ((gBlk G ga FB NX KN n ah0 b ∨ b = TX ∨ b = CO) ∧ b < w.heap.size) ∨ (w6.heap.size ≤ b ∧ b < w9.heap.size) ∨ b = b5 ∨ b = b5 + 1 ∨ b = b10 + 1 ∨ b = b12 := by
        rintro b (q | q | q | q | q | q | q | q | q)
        · rcases gb b q with r | r
          · exact .inl ⟨.inl r.1, r.2⟩
          · exact .inr (.inl ⟨r.1, by omega⟩)
        · exact .inr (.inr (.inl q))
        · exact .inl ⟨.inr (.inl q), by omega⟩
        · exact .inr (.inr (.inr (.inl q)))
        · exact .inl ⟨.inr (.inr q), by omega⟩
        · exact .inr (.inr (.inr (.inr (.inl q))))
        · exact .inr (.inr (.inr (.inr (.inr q))))
        · exact .inr (.inl ⟨by omega, by omega⟩)
        · exact .inr (.inl ⟨by omega, by omega⟩)
      refine ⟨⟨HG7.out.keepB k79f (fun _ _ q => q), hA7.keep k79f (fun _ _ q => q), k19.at HB5.out (by omega), HRX.out.keep (k09.block TX hTX (fun q => hGT.1 q.symm)), k19.at HB6.out (by omega), HRC.out.keep (k09.block CO hCO (fun q => hGT.2 q.symm)), k49.at HB11.out (by omega), k69.at HB12.out (by omega), HK9.out.at HB13.out id, HF7.out.keep (k79f.block FL hfl2 id), fun b hb => ?_, hn, hE⟩, ⟨⟨0, fun _ _ => .int .u8 0, k49.at HB10.out (by omega), Vec.nil _ _ _ _, fun i hi => by omega⟩, ⟨_, _, _, _, HSR.out.keep k59 (fun b hb q => by have := own b hb; have q2 : b = G := q; omega)⟩, fun q => by have := own b10 q; omega, nofun⟩, fun b hb q => ?_, fun b hb q => ?_, fun b hb q => ?_, fun b q => by have := HDl.out b q; omega, fun b q => .inl q, fun b hb => ?_, k09.wide (fun b q => .inl q)⟩
      · rcases ebl b hb with r | r | r | r | r | r <;> omega
      · have e := ebl b hb
        rcases q with q | q | q
        · omega
        · cases q
        · have := own b q; omega
      · have e := ebl b hb
        have := HDl.out b q
        rcases e with r | r
        · exact HDG.out b r.1 q
        · omega
      · have := HDl.out b q
        rcases hb with r | r | r
        · omega
        · cases r
        · have := own b r; omega
      · rcases hb with r | r | r
        · omega
        · cases r
        · have := own b r; omega
    have HD9 : Hid (DE none w9 D0) := by
      have k69 : Keep (fun b => b = G) w6 w9 := HK7.out.trans (HK8.out.trans HK9.out (fun _ q => q.elim)) (fun _ q => q.elim)
      have k49 : Keep (fun b => b = G) w4 w9 := ((HK5.out.trans HK6.out (fun _ q => q.elim)).wide (fun _ q => q.elim)).trans k69 (fun _ q => .inl q)
      have k09 : Keep (fun b => b = G) w w9 := (HK04.out.wide (fun _ q => q.elim)).trans k49 (fun _ q => .inl q)
      exact HDS.out none w w9 D0 HDE.out (k09.wide (fun b q r => HDG.out G (.inl (.inl rfl)) (by have q2 : b = G := q; rw [← q2]; exact r)))
    have HNE : Hid (∀ b, (b = b5 ∨ b = TX ∨ b = b5 + 1 ∨ b = CO ∨ b = b10 + 1 ∨ b = b12 ∨ b = b13 ∨ b = FL) → b ≠ G) := by
      rintro b (q | q | q | q | q | q | q | q) r
      · omega
      · exact hGT.1 (by omega)
      · omega
      · exact hGT.2 (by omega)
      · omega
      · omega
      · omega
      · omega
    have HCYk : Hid (Row w9 CY n (fun i => .bool (cyc comp n i)) ∧ CY < w9.heap.size ∧ w.heap.size ≤ CY ∧ CY < w4.heap.size) := by
      have k29 : Keep (fun b => b = G) w2 w9 := ((HK4.out.trans (HK5.out.trans HK6.out (fun _ q => q.elim)) (fun _ q => q.elim)).wide (fun _ q => q.elim)).trans (HK7.out.trans (HK8.out.trans HK9.out (fun _ q => q.elim)) (fun _ q => q.elim)) (fun _ q => .inl q)
      exact ⟨HY2.out.keep (k29.block CY hcy2 (by omega)), by omega, by omega, by omega⟩
    have HCT := fun _ : Unit => containsB CZ n n _ w9 (by omega) HZ9.out.cell
    have HSN : Hid (∀ b, b < w4.heap.size → ¬ sOwn S RE PA VI b) := by
      rintro b hb (q | q | q | q) <;> omega
    clear y5 y10 y12 y13
    clear HK1 HK2 HK4 HK5 HK6 HK7 HK8 HK9 HK46 HG4 HG7 HA7 HGB7 HF7 HB5 HB6 HB10 HB11 HB12 HB13 HSR HY2 HDE
    go_upto_if 37 with (first
      | (go_at_call 140; refine (HCT ()).mono ?_; clear HCT; rintro e w10 ⟨⟨r2, rfl, hr2⟩, rfl⟩))
    go_cut [15] from 15 to 65 (fun _ wx => ∃ (ah : Value) (D : Nat → Prop) (fb : Option Addr) (fl : Nat), fl ≤ 2 ∧ Hid (J1 w D0 G n E la lc ga gc FB NX KN ah first next kd b5 TX tc tx (b5 + 1) CO comp b10 (b10 + 1) b12 S b13 FL flow RE PA VI fl fb wx D) ∧ Hid (∃ q, (q = none ∨ q = some FL) ∧ DE q wx D) ∧ Hid (JB w9 D0 G b10 S RE PA VI fb wx D))
    case first =>
      cases r2 with
      | false =>
        go_wp2
        go_meet
        exact ⟨ah, D0, none, 0, by omega, HJ9, ⟨none, .inl rfl, HD9.out⟩, JB.start _ _ _ _ _ _ _ _⟩
      | true =>
        have HCP := fun _ : Unit => components_any G n E la lc ga gc FB NX KN ah first next kd 9 true (.slice (some ⟨CZ, 0, none⟩) n n) CZ _ w9 HJ9.out.ew.gl HJ9.out.ew.ao hn hE hG (.inr ⟨by decide, by decide⟩) (.inr ⟨rfl, HZ9.out, hcz2⟩)
        have hneM : ∀ b, mB b10 none S RE PA VI b → b ≠ G := fun b hb q => by have := HJ9.out.mn b hb; omega
        go_upto_region 11 with (first
          | (go_at_call 68; refine (HCP ()).mono ?_; clear HCP; rintro e w10 ⟨C9, comp9, rfl, h91, h92, h93, h94, h95, h96⟩
             obtain ⟨ah2, hj10, hk10⟩ := HJ9.out.comp' h96 (by
               rintro b (q | q | q | q | q | q | q | q | q)
               · exact HNE.out b (.inl q)
               · exact HNE.out b (.inr (.inl q))
               · exact HNE.out b (.inr (.inr (.inl q)))
               · exact HNE.out b (.inr (.inr (.inr (.inl q))))
               · exact HNE.out b (.inr (.inr (.inr (.inr (.inl q)))))
               · exact HNE.out b (.inr (.inr (.inr (.inr (.inr (.inl q))))))
               · exact HNE.out b (.inr (.inr (.inr (.inr (.inr (.inr (.inl q)))))))
               · exact HNE.out b (.inr (.inr (.inr (.inr (.inr (.inr (.inr q)))))))
               · exact hneM b q)
             have HYC := fun _ : Unit => cycle_any G n E la lc ga gc FB NX KN ah2 first next kd true C9 n comp9 9 w10 hn hn0 hE hj10.ew.gl hj10.ew.ao (.inr ⟨rfl, by decide, by decide⟩) h93 h92 h94 h95
             have HJ10 : Hid _ := hj10
             have HK10 : Hid _ := hk10
             clear hj10 hk10 h93 h94 h95 h96)
          | (go_at_call 69; refine (HYC ()).mono ?_; clear HYC; rintro e w11 ⟨hcr, hk11⟩
             have HJ11 : Hid _ := HJ10.out.keepF hk11
             have HK11 : Hid _ := hk11
             have HCR2 : Hid _ := hcr
             obtain ⟨cv, ev, rfl⟩ : ∃ cv ev, e = .returned (.tuple #[cv, ev]) := (by
               rcases hcr with q | ⟨_, A, B, c1, c2, _, _, _, _, q, _⟩
               · exact ⟨_, _, q⟩
               · exact ⟨_, _, q⟩)
             clear hcr hk11))
        have hnq := fun W (a : Option Addr) n' c' => run_neq_slice_nil_any (P := Ybaz.prog) W 62 3 a n' c' 0 0 Ybaz.underlying62
        go_cut [47] from 46 to 47 (fun s wx => w11 = wx ∧ ∃ bb, s = .bool bb ∧ (bb = true → PathOut w10 w11 n (.returned (.tuple #[cv, ev]))))
        case first =>
          rcases HCR2.out with q | q
          · injection q with q; injection q with q
            have q1 : cv = .slice none 0 0 := by
              simp only [Array.mk.injEq, List.cons.injEq] at q
              exact q.1
            subst q1
            go_wp2
            go_meet
            exact ⟨rfl, _, rfl, nofun⟩
          · have HQ : Hid _ := q
            obtain ⟨m, A, B, c1, c2, f, d, h1, h2, h3, _⟩ := q
            injection h3 with h3; injection h3 with h3
            have q1 : cv = .slice (some ⟨A, 0, none⟩) m c1 := by
              simp only [Array.mk.injEq, List.cons.injEq] at h3
              exact h3.1
            subst q1
            clear h3
            go_wp2
            go_meet
            exact ⟨rfl, _, rfl, fun _ => HQ.out⟩
        case rest =>
          obtain ⟨rfl, bb, rfl, hbb⟩ := hcut
          have HBB : Hid _ := hbb
          clear hbb HCR2
          have HD11 : Hid (DE none w11 D0) := HDS.out none w9 w11 D0 HD9.out ((HK10.out.trans HK11.out (fun _ q => q.elim)).wide (fun b q r => HDG.out G (.inl (.inl rfl)) (by have q2 : b = G := q; rw [← q2]; exact r)))
          have HB11 : Hid (JB w9 D0 G b10 S RE PA VI none w11 D0) := (JB.start w9 D0 G b10 S RE PA VI).keepG (HK10.out.trans HK11.out (fun _ q => q.elim))
          go_upto_if 47 with fail
          go_cut [48] from 48 to 61 (fun _ wx => ∃ (fb : Option Addr) (fl : Nat), fl ≤ 1 ∧ Hid (J1 w D0 G n E la lc ga gc FB NX KN ah2 first next kd b5 TX tc tx (b5 + 1) CO comp b10 (b10 + 1) b12 S b13 FL flow RE PA VI fl fb wx D0) ∧ Hid (DE none wx D0) ∧ Hid (JB w9 D0 G b10 S RE PA VI fb wx D0))
          case first =>
            cases bb with
            | false =>
              go_wp2
              go_meet
              exact ⟨none, 0, by omega, HJ11, HD11, HB11⟩
            | true =>
              have hpo := HBB.out (by first | rfl | trivial)
              obtain ⟨m, A, B, c1, c2, f, d, h1, h2, h3, h4, h5, h6, h7, h8, h9, h10, hc1, hc2⟩ := hpo
              injection h3 with h3; injection h3 with h3
              simp only [Array.mk.injEq, List.cons.injEq, and_true] at h3
              obtain ⟨rfl, rfl⟩ := h3
              obtain ⟨m, rfl⟩ : ∃ m', m = m' + 1 := ⟨m - 1, by omega⟩
              obtain ⟨q1, rfl⟩ : ∃ k, c1 = k + 1 := ⟨c1 - 1, by omega⟩
              obtain ⟨q2, rfl⟩ : ∃ k, c2 = k + 1 := ⟨c2 - 1, by omega⟩
              have c11 : w11.cell? ⟨b10 + 1, 0, none⟩ = some (.func (.func 141) #[] #[.pointer (some ⟨b5, 0, none⟩), .pointer (some ⟨b10, 0, none⟩)]) := cell_of _ _ 0 _ _ HJ11.out.ew.c11
              have hb11 := heap_lt HJ11.out.ew.c11
              have eA : w11.cell? ⟨A, 0, none⟩ = some (.int .i64 (f 0 : Int)) := h4.cell 0 (by omega)
              have HPk : Hid (∀ v : World, Keep (fun _ => False) w11 v → Calls Ybaz.prog 142 #[.slice (some ⟨B, 0, none⟩) 1 (q2 + 1)] v fun e w' => ∃ (PK : Nat) (pg : Int), e = .returned (.slice (some ⟨PK, 0, none⟩) 1 1) ∧ (w'.cell? ⟨b10 + 1, 0, none⟩ = some (.func (.func 141) #[] #[.pointer (some ⟨b5, 0, none⟩), .pointer (some ⟨b10, 0, none⟩)]) ∧ w'.cell? ⟨A, 0, none⟩ = some (.int .i64 (f 0 : Int))) ∧ w'.cell? ⟨PK, 0, none⟩ = some (.int .u8 pg) ∧ Hid (Keep (fun _ => False) w11 w')) := fun v kv => by
                refine (pick_any _ B 0 1 (q2 + 1) d v (by omega) (fun _ => rfl) (Nat.lt_of_lt_of_le h10 kv.size) (fun i hi => ?_)).mono ?_
                · rw [Nat.zero_add]; exact (kv.cell ⟨B, i, none⟩ h10 id).trans (h5.cell i (by omega))
                · rintro e w' ⟨⟨PK, pg, rfl, g1, g2, g3⟩, g4⟩
                  have kk := kv.trans g4 (fun _ q => q.elim)
                  exact ⟨PK, pg 0, rfl, ⟨(kk.cell ⟨b10 + 1, 0, none⟩ hb11 id).trans c11, (kk.cell ⟨A, 0, none⟩ h9 id).trans eA⟩, g3.cell 0 (by omega), kk⟩
              have HA4 : Hid _ := h4
              have HB5' : Hid _ := h5
              have HF6 : Hid _ := h6
              clear h4 h5 h6 HBB
              have i1 : (1 : Int) ≤ (m : Int) + 1 := by omega
              have i2 : (m : Int) + 1 ≤ (q1 : Int) + 1 := by omega
              have i3 : (m : Int) + 1 ≤ (q2 : Int) + 1 := by omega
              have i4 : (1 : Int) ≤ (q2 : Int) + 1 := by omega
              as_aux_lemma =>
                go_upto_region 12 with fail
                have kd11 : Keep (fun _ => False) w11 w11.drew := (Keep.refl _ _).drew
                refine wp_region_held_drew (S := (fun w' => w'.cell? ⟨b10 + 1, 0, none⟩ = some (.func (.func 141) #[] #[.pointer (some ⟨b5, 0, none⟩), .pointer (some ⟨b10, 0, none⟩)]) ∧ w'.cell? ⟨A, 0, none⟩ = some (.int .i64 (f 0 : Int)))) (by kernel_rfl) ⟨c11, eA⟩ (fun hHeld => ?_)
                refine wpAnyH_take (i := 0) (oi := ?_) (v := ?_) (by simp only [List.getElem?_toArray, List.getElem?_cons_zero]; rfl) (by kernel_rfl) (by kernel_rfl) (by kernel_rfl) (by exact fun _ _ _ h => h) (Or.inl ⟨by rfl, ?_⟩) (by assumption) ?_; rotate_left; (focus (intro w hSw; (try dsimp only at hSw); first | (go_simp; done) | (go_simp; with_reducible rfl))); try simp only [Act.put, List.setIfInBounds_toArray, List.set_cons_zero, List.set_cons_succ]
                refine wpAnyH_take (i := 1) (oi := ?_) (v := ?_) (by simp only [List.getElem?_toArray, List.getElem?_cons_succ, List.getElem?_cons_zero]; rfl) (by kernel_rfl) (by kernel_rfl) (by kernel_rfl) (by exact fun _ _ _ h => h) (Or.inl ⟨by rfl, ?_⟩) (by assumption) ?_; rotate_left; (focus (intro w hSw; (try dsimp only at hSw); first | (go_simp; done) | (go_simp; with_reducible rfl))); try simp only [Act.put, List.setIfInBounds_toArray, List.set_cons_zero, List.set_cons_succ]
                refine wpAnyH_take (i := 2) (oi := ?_) (v := ?_) (by simp only [List.getElem?_toArray, List.getElem?_cons_succ, List.getElem?_cons_zero]; rfl) (by kernel_rfl) (by kernel_rfl) (by kernel_rfl) (by exact fun _ _ _ h => h) (Or.inl ⟨by rfl, ?_⟩) (by assumption) ?_; rotate_left; (focus (intro w hSw; (try dsimp only at hSw); first | (go_simp; done) | (go_simp; with_reducible rfl))); try simp only [Act.put, List.setIfInBounds_toArray, List.set_cons_zero, List.set_cons_succ]
                refine wpAnyH_take (i := 3) (oi := ?_) (v := ?_) (by simp only [List.getElem?_toArray, List.getElem?_cons_succ, List.getElem?_cons_zero]; rfl) (by kernel_rfl) (by kernel_rfl) (by kernel_rfl) (by exact fun _ _ _ h => h) (Or.inl ⟨by rfl, ?_⟩) (by assumption) ?_; rotate_left; (focus (intro w hSw; (try dsimp only at hSw); first | (go_simp; done) | (go_simp; with_reducible rfl))); try simp only [Act.put, List.setIfInBounds_toArray, List.set_cons_zero, List.set_cons_succ]
                refine wpAnyH_take (i := 4) (oi := ?_) (v := ?_) (by simp only [List.getElem?_toArray, List.getElem?_cons_succ, List.getElem?_cons_zero]; rfl) (by kernel_rfl) (by kernel_rfl) (by kernel_rfl) (by exact fun _ _ _ h => h) (Or.inl ⟨by rfl, ?_⟩) (by assumption) ?_; rotate_left; (focus (intro w hSw; (try dsimp only at hSw); first | (go_simp; done) | (go_simp; with_reducible rfl))); try simp only [Act.put, List.setIfInBounds_toArray, List.set_cons_zero, List.set_cons_succ]
                refine wpAnyH_take (i := 5) (oi := ?_) (v := ?_) (by simp only [List.getElem?_toArray, List.getElem?_cons_succ, List.getElem?_cons_zero]; rfl) (by kernel_rfl) (by kernel_rfl) (by kernel_rfl) (by exact fun _ _ _ h => h) (Or.inl ⟨by rfl, ?_⟩) (by assumption) ?_; rotate_left; (focus (intro w hSw; (try dsimp only at hSw); first | (go_simp; done) | (go_simp; with_reducible rfl))); try simp only [Act.put, List.setIfInBounds_toArray, List.set_cons_zero, List.set_cons_succ]
                refine wpAnyH_take (i := 9) (oi := ?_) (v := ?_) (by simp only [List.getElem?_toArray, List.getElem?_cons_succ, List.getElem?_cons_zero]; rfl) (by kernel_rfl) (by kernel_rfl) (by kernel_rfl) (by exact fun _ _ _ h => h) (Or.inl ⟨by rfl, ?_⟩) (by assumption) ?_; rotate_left; (focus (intro w hSw; (try dsimp only at hSw); first | (go_simp; done) | (go_simp; with_reducible rfl))); try simp only [Act.put, List.setIfInBounds_toArray, List.set_cons_zero, List.set_cons_succ]
                refine wpAnyH_take (i := 10) (oi := ?_) (v := ?_) (by simp only [List.getElem?_toArray, List.getElem?_cons_succ, List.getElem?_cons_zero]; rfl) (by kernel_rfl) (by kernel_rfl) (by kernel_rfl) (by exact fun _ _ _ h => h) (Or.inl ⟨by rfl, ?_⟩) (by assumption) ?_; rotate_left; (focus (intro w hSw; (try dsimp only at hSw); first | (go_simp; done) | (go_simp; with_reducible rfl))); try simp only [Act.put, List.setIfInBounds_toArray, List.set_cons_zero, List.set_cons_succ]
                refine wpAnyH_take (i := 11) (oi := ?_) (v := ?_) (by simp only [List.getElem?_toArray, List.getElem?_cons_succ, List.getElem?_cons_zero]; rfl) (by kernel_rfl) (by kernel_rfl) (by kernel_rfl) (by exact fun _ _ _ h => h) (Or.inl ⟨by rfl, ?_⟩) (by assumption) ?_; rotate_left; (focus (intro w hSw; (try dsimp only at hSw); first | (go_simp; done) | (go_simp; with_reducible rfl))); try simp only [Act.put, List.setIfInBounds_toArray, List.set_cons_zero, List.set_cons_succ]
                refine wpAnyH_take (i := 12) (oi := ?_) (v := ?_) (by simp only [List.getElem?_toArray, List.getElem?_cons_succ, List.getElem?_cons_zero]; rfl) (by kernel_rfl) (by kernel_rfl) (by kernel_rfl) (by exact fun _ _ _ h => h) (Or.inl ⟨by rfl, ?_⟩) (by assumption) ?_; rotate_left; (focus (intro w hSw; (try dsimp only at hSw); first | (go_simp; done) | (go_simp; with_reducible rfl))); try simp only [Act.put, List.setIfInBounds_toArray, List.set_cons_zero, List.set_cons_succ]
                refine wpAnyH_ready (rs := [6]) (by kernel_rfl) (by simp) ?_
                refine AllReadyH.cons (o := ?_) (by simp only [List.getElem?_toArray, List.getElem?_cons_succ, List.getElem?_cons_zero]; rfl) (fun K hK => ?_) AllReadyH.nil
                go_simp
                go_at_call 142
                refine (HPk.out _ kd11).mono ?_
                rintro e w12 ⟨PK, pg, rfl, hS2, hpk, HK12⟩
                dsimp only
                refine hK.out _ _ hS2 (fun hHeld2 => ?_)
                clear hK K
                try simp only [Act.put, List.setIfInBounds_toArray, List.set_cons_zero, List.set_cons_succ]
                refine wpAnyH_take (i := 7) (oi := ?_) (v := ?_) (by simp only [List.getElem?_toArray, List.getElem?_cons_succ, List.getElem?_cons_zero]; rfl) (by kernel_rfl) (by kernel_rfl) (by kernel_rfl) (by exact fun _ _ _ h => h) (Or.inl ⟨by rfl, ?_⟩) (by assumption) ?_; rotate_left; (focus (intro w hSw; (try dsimp only at hSw); first | (go_simp; done) | (go_simp; with_reducible rfl))); try simp only [Act.put, List.setIfInBounds_toArray, List.set_cons_zero, List.set_cons_succ]
                refine wpAnyH_ready (rs := [8]) (by kernel_rfl) (by simp) ?_
                refine AllReadyH.cons (o := ?_) (by simp only [List.getElem?_toArray, List.getElem?_cons_succ, List.getElem?_cons_zero]; rfl) (fun K hK => ?_) AllReadyH.nil
                go_simp
                refine hK.out _ _ hS2 (fun hHeld3 => ?_)
                clear hK K
                try simp only [Act.put, List.setIfInBounds_toArray, List.set_cons_zero, List.set_cons_succ]
                refine wpAnyH_ready (rs := [13]) (by kernel_rfl) (by simp) ?_
                refine AllReadyH.cons (o := ?_) (by simp only [List.getElem?_toArray, List.getElem?_cons_succ, List.getElem?_cons_zero]; rfl) (fun K hK => ?_) AllReadyH.nil
                go_simp
                go_at_call 141
                have hj12 := HJ11.out.keepF HK12.out
                have hA12 : ∀ i, i < m → w12.cell? ⟨A, 1 + i, none⟩ = some (.int .i64 (f (i + 1) : Int)) := fun i hi => by rw [Nat.add_comm]; exact (HK12.out.cell ⟨A, i + 1, none⟩ h9 id).trans (HA4.out.cell (i + 1) (by omega))
                have hB12 : ∀ i, i < m → w12.cell? ⟨B, 1 + i, none⟩ = some (.int .u8 (d (i + 1))) := fun i hi => by rw [Nat.add_comm]; exact (HK12.out.cell ⟨B, i + 1, none⟩ h10 id).trans (HB5'.out.cell (i + 1) (by omega))
                refine (add_any b5 b10 TX n tc tx 0 (f 0) m pg _ _ (fun i => f (i + 1)) (fun i => d (i + 1)) none 0 w12 hj12.mw.fd hj12.ew.t5 hj12.ew.rx (hj12.ew.lt _ (.inr (.inr (.inl rfl)))) (HF6.out 0 (by omega)) (by omega) (src_tail (by omega) hA12) (fun i hi => HF6.out (i + 1) (by omega)) (src_tail (by omega) hB12) (by omega) ⟨by decide, by decide⟩).mono ?_
                rintro e w14 ⟨rfl, ha⟩
                have HAd : Hid _ := ha
                have kA : Keep (fun b => b = b10) w12 w14 := by
                  obtain ⟨_, _, _, g3⟩ := ha
                  exact g3.wide (fun b q => q.elim id (fun q => by cases q))
                have hAb : A ≠ b10 := by have := HJ11.out.mw.fd.lt.1; have := HJ10.out.mw.fd.lt.1; omega
                dsimp only
                refine hK.out _ _ ⟨(kA.cell ⟨b10 + 1, 0, none⟩ (Nat.lt_of_lt_of_le hb11 HK12.out.size) (by show ¬ b10 + 1 = b10; omega)).trans hS2.1, (kA.cell ⟨A, 0, none⟩ (Nat.lt_of_lt_of_le h9 HK12.out.size) hAb).trans hS2.2⟩ (fun hHeld4 => ?_)
                clear hK K
                try simp only [Act.put, List.setIfInBounds_toArray, List.set_cons_zero, List.set_cons_succ]
                refine wpAnyH_done (by kernel_rfl) ?_ _
                obtain ⟨⟨fb', g1, g2⟩, g3⟩ := hj12.both (HB11.out.keepG (HK12.out.wide (fun _ q => q.elim))) (mnext_of hj12.mw hj12.mw.sr ((Keep.refl _ w12)) HAd.out)
                have HDl' : Hid (DE none w14 D0) := HDS.out none w12 w14 D0 (HDS.out none w11 w12 D0 HD11.out (HK12.out.wide (fun _ q => q.elim))) g3
                have HG1 : Hid _ := g1
                have HG2 : Hid _ := g2
                clear g1 g2 g3 hj12 ha kA hA12 hB12
                generalize (if q1 = 0 then some (⟨A, 0, none⟩ : Addr) else some ⟨A, 1, none⟩) = aa
                generalize (if q2 = 0 then some (⟨B, 0, none⟩ : Addr) else some ⟨B, 1, none⟩) = ab
                go_wp2
                go_meet
                exact ⟨fb', 1, by omega, HG1, HDl', HG2⟩
          case rest =>
            obtain ⟨fb, fl, hfl, HJ12, HD12, HB12⟩ := hcut
            clear HJ11 HD11 HB11 HBB HJ9 HD9
            have c13 : wc.cell? ⟨b13, 0, none⟩ = some (.slice (some ⟨FL, 0, none⟩) n n) := cell_of _ _ 0 _ _ HJ12.out.ew.c13
            have HDC := fun _ : Unit => HDP.out (fun wx D => ∃ fb, J1 w D0 G n E la lc ga gc FB NX KN ah2 first next kd b5 TX tc tx (b5 + 1) CO comp b10 (b10 + 1) b12 S b13 FL flow RE PA VI fl fb wx D ∧ JB w9 D0 G b10 S RE PA VI fb wx D) (fun wx D => ∃ fb, J1 w D0 G n E la lc ga gc FB NX KN ah2 first next kd b5 TX tc tx (b5 + 1) CO comp b10 (b10 + 1) b12 S b13 FL flow RE PA VI (fl + 1) fb wx D ∧ JB w9 D0 G b10 S RE PA VI fb wx D)
              (fun w w' D D' h k hD => by
                obtain ⟨fb, h1, h2⟩ := h
                exact ⟨fb, h1.step k hD, h2.step k hD⟩) FL flow (fun w D h => by
                obtain ⟨fb, h1, _⟩ := h
                exact ⟨h1.ew.rf, h1.ew.lt _ (.inr (.inr (.inr (.inr (.inr (.inr (.inr (.inr rfl)))))))) ⟩) HFC.out 18 ⟨by decide, by decide⟩ 145 (cf Ybaz.func145 (by kernel_rfl) (by kernel_rfl)) #[.pointer (some ⟨b12, 0, none⟩), .pointer (some ⟨b13, 0, none⟩), .pointer (some ⟨b10 + 1, 0, none⟩)]
              (fun wx D f t d h hf ht hd hk => by
                obtain ⟨fb, h1, h2⟩ := h
                refine (yield1_any wx h1.ew h1.mw h1.dis f t hf ht d (by omega)).mono ?_
                rintro e w' ⟨rfl, hm⟩
                obtain ⟨⟨fb', g1, g2⟩, g3⟩ := h1.both h2 hm
                exact ⟨⟨false, rfl, nofun, fun _ => ⟨fb', g1, g2⟩⟩, g3⟩) wc D0 ⟨fb, HJ12.out, HB12.out⟩ none (fun _ q => by simp at q) HD12.out
            go_wp2_with (first
              | (go_at_call 54; refine (HDC ()).mono ?_; clear HDC; rintro e w13 ⟨rfl, D', hyi, hde13, _, _⟩))
            go_meet
            rcases hyi with ⟨fb', g1, g2⟩ | ⟨fb', g1, g2⟩
            · exact ⟨ah2, D', fb', fl, by omega, g1, ⟨_, .inr rfl, hde13⟩, g2⟩
            · exact ⟨ah2, D', fb', fl + 1, by omega, g1, ⟨_, .inr rfl, hde13⟩, g2⟩
    case rest =>
      obtain ⟨ah3, D3, fb3, fl3, hfl3, HJ3, HD3, HB3⟩ := hcut
      clear HJ9 HD9 HZ9
      obtain ⟨w13, rfl⟩ : ∃ x, x = wc := ⟨wc, rfl⟩
      have hCY := HCYk.out
      have z13 := HB3.out.kp.size
      have HY13 : Hid (Row w13 CY n (fun i => .bool (cyc comp n i))) := hCY.1.keep (HB3.out.kp.block CY hCY.2.1 (by
        have y5 := Hb5.out
        have y10 := Hb10.out
        rintro (q | q | q | q)
        · omega
        · omega
        · have := HJ3.out.mw.lt CY (.inr (.inr q)); exact absurd q (HSN.out CY (by omega))
        · have := HDl.out CY q; omega))
      have hcy13 : CY < w13.heap.size := by omega
      clear hCY
      obtain ⟨x17, k17, l17⟩ := mkb w13 (.func (.func 146) #[] #[.pointer (some ⟨b13, 0, none⟩), .pointer (some ⟨b12, 0, none⟩), .pointer (some ⟨b5 + 1, 0, none⟩)]) 247
      have H17 : Hid _ := x17
      have HK17 : Hid _ := k17
      have HJ14 : Hid _ := HJ3.out.keepF k17
      clear x17 k17
      go_upto_region 15 with fail
      generalize w13.alloc (.cells #[.func (.func 146) #[] #[.pointer (some ⟨b13, 0, none⟩), .pointer (some ⟨b12, 0, none⟩), .pointer (some ⟨b5 + 1, 0, none⟩)]] 247) = w14 at *
      obtain ⟨b17, Hb17⟩ : ∃ b, Hid (b = w13.heap.size) := ⟨_, rfl⟩
      rw [← Hb17.out] at H17 l17 ⊢
      have HCP := fun _ : Unit => components_any G n E la lc ga gc FB NX KN ah3 first next kd 7 true (.slice (some ⟨CY, 0, none⟩) n n) CY _ w14 HJ14.out.ew.gl HJ14.out.ew.ao hn hE hG (.inr ⟨by decide, by decide⟩) (.inr ⟨rfl, HY13.out.keep (HK17.out.block CY hcy13 id), Nat.lt_of_lt_of_le hcy13 HK17.out.size⟩)
      go_upto_region 16 with (first
        | (go_at_call 68; refine (HCP ()).mono ?_; clear HCP; rintro e w15 ⟨IT, item, rfl, hit1, hit2, hit3, _, _, hit6⟩))
      obtain ⟨ah4, hj15, hk15⟩ := HJ14.out.comp' hit6 (by
        rintro b (q | q | q | q | q | q | q | q | q)
        · exact HNE.out b (.inl q)
        · exact HNE.out b (.inr (.inl q))
        · exact HNE.out b (.inr (.inr (.inl q)))
        · exact HNE.out b (.inr (.inr (.inr (.inl q))))
        · exact HNE.out b (.inr (.inr (.inr (.inr (.inl q)))))
        · exact HNE.out b (.inr (.inr (.inr (.inr (.inr (.inl q))))))
        · exact HNE.out b (.inr (.inr (.inr (.inr (.inr (.inr (.inl q)))))))
        · exact HNE.out b (.inr (.inr (.inr (.inr (.inr (.inr (.inr q)))))))
        · have := HJ14.out.mn b q; omega)
      obtain ⟨x18, k18, l18⟩ := mkb w15 (.slice (some ⟨IT, 0, none⟩) n n) 95
      have H18 : Hid _ := x18
      have HK15 : Hid _ := hk15
      have HK18 : Hid _ := k18
      have HJ16 : Hid _ := hj15.keepF k18
      have HIT : Hid _ := hit3
      clear x18 k18 hj15 hk15 hit3 hit6
      generalize w15.alloc (.cells #[.slice (some ⟨IT, 0, none⟩) n n] 95) = w16 at *
      obtain ⟨b18, Hb18⟩ : ∃ b, Hid (b = w15.heap.size) := ⟨_, rfl⟩
      rw [← Hb18.out] at H18 l18 ⊢
      obtain ⟨y19, k19, l19⟩ := mkb w16 (.bool false) 4
      obtain ⟨y20, k20, l20⟩ := mkb (w16.alloc (.cells #[.bool false] 4)) (.bool false) 4
      obtain ⟨y21, k21, l21⟩ := mkb ((w16.alloc (.cells #[.bool false] 4)).alloc (.cells #[.bool false] 4)) (.bool false) 4
      have s19 : (w16.alloc (.cells #[.bool false] 4)).heap.size = w16.heap.size + 1 := World.size_alloc _ _
      have s20 : ((w16.alloc (.cells #[.bool false] 4)).alloc (.cells #[.bool false] 4)).heap.size = w16.heap.size + 2 := by rw [World.size_alloc, s19]
      rw [s19] at y20 l20
      rw [s20] at y21 l21
      have k1921 := (k19.trans k20 (fun _ q => q.elim)).trans k21 (fun _ q => q.elim)
      have HFW : Hid (FW (((w16.alloc (.cells #[.bool false] 4)).alloc (.cells #[.bool false] 4)).alloc (.cells #[.bool false] 4)) w16.heap.size (w16.heap.size + 1) (w16.heap.size + 2) false false false) := ⟨k21.at (k20.at y19 id) id, k21.at y20 id, y21, by omega⟩
      have HJ17 : Hid _ := HJ16.out.keepF k1921
      have HK21 : Hid _ := k1921
      clear y19 k19 l19 y20 k20 l20 y21 k21 s19 s20 k1921
      go_upto_region 17 with fail
      generalize ((w16.alloc (.cells #[.bool false] 4)).alloc (.cells #[.bool false] 4)).alloc (.cells #[.bool false] 4) = w17 at *
      obtain ⟨b19, Hb19⟩ : ∃ b, Hid (b = w16.heap.size) := ⟨_, rfl⟩
      rw [← Hb19.out] at HFW l21 ⊢
      have z14 := HK17.out.size
      have z15 := HK15.out.size
      have z16 := HK18.out.size
      have z17 := HK21.out.size
      have HJ2 : Hid (J2 w D0 G n E la lc ga gc FB NX KN ah4 first next kd b5 TX tc tx (b5 + 1) CO comp b10 (b10 + 1) b12 S b13 FL flow RE PA VI b17 b18 IT b19 (b19 + 1) (b19 + 2) item fl3 fb3 false false w17 D3) := by
        have y17 := Hb17.out
        have y18 := Hb18.out
        have y19 := Hb19.out
        have zw := HJ3.out.kp.size
        have mlt := HJ3.out.mw.lt
        have dlt := HJ3.out.dl
        have hk1517 : Keep (fun _ => False) w15 w17 := HK18.out.trans HK21.out (fun _ q => q.elim)
        refine ⟨HJ17.out, hk1517.at (HK15.out.at H17.out (by omega)) id, HK21.out.at H18.out id, HIT.out.keep (hk1517.block IT hit2 id), HFW.out, fun b hb => ?_, fun b hb => ?_, fun b hb => ?_, fun b hb => ?_, by simp [bn]; omega⟩
        · refine ⟨fun q => ?_, ?_, ?_, fun q => ?_, ?_⟩
          · have := mlt b q; omega
          · omega
          · omega
          · have := dlt b q; omega
          · omega
        · have := HJ16.out.ew.lt b hb; omega
        · have := mlt b hb; omega
        · refine ⟨fun q => ?_, by omega, by omega⟩
          have := dlt b q; omega
      have HD17 : Hid (∃ q, (q = none ∨ q = some FL) ∧ DE q w17 D3) := by
        have k1317 : Keep (fun b => b = G) w13 w17 := ((HK17.out.wide (fun _ q => q.elim)).trans HK15.out (fun _ q => .inl q)).trans (HK18.out.trans HK21.out (fun _ q => q.elim)) (fun _ q => q.elim)
        obtain ⟨q, hq, hd⟩ := HD3.out
        exact ⟨q, hq, HDS.out q w13 w17 D3 hd (k1317.wide (fun b q r => HJ3.out.d1 G (.inl (.inl rfl)) (by have q2 : b = G := q; rw [← q2]; exact r)))⟩
      clear HJ3 HD3 HB3 HJ14 HJ16 HJ17 HFW HK15 HK17 HK18 HK21 H17 H18 HIT HY13
      have c6 : w17.cell? ⟨b5 + 1, 0, none⟩ = some (.slice (some ⟨CO, 0, none⟩) n n) := cell_of _ _ 0 _ _ HJ2.out.j.ew.c6
      obtain ⟨qq, hqq, hd17⟩ := HD17.out
      have HQQ : Hid (∀ g, qq = some g → IsC w17 g) := fun g e => by
        rcases hqq with r | r
        · rw [r] at e; simp at e
        · rw [r] at e; cases e; exact HJ2.out.j.ew.rf.isC hn0
      have HD17q : Hid _ := hd17
      clear hqq hd17 HD17
      have HTY : Hid (∀ (wx : World) (D : Nat → Prop) (f t : Nat), (∃ fl fb sg sw, J2 w D0 G n E la lc ga gc FB NX KN ah4 first next kd b5 TX tc tx (b5 + 1) CO comp b10 (b10 + 1) b12 S b13 FL flow RE PA VI b17 b18 IT b19 (b19 + 1) (b19 + 2) item fl fb sg sw wx D) → f < n → t < n → Calls Ybaz.prog 147 (#[.int .i64 (f : Int), .int .i64 (t : Int), .int .u8 4] ++ #[.pointer (some ⟨b19 + 2, 0, none⟩), .pointer (some ⟨b19 + 1, 0, none⟩), .pointer (some ⟨b18, 0, none⟩), .pointer (some ⟨b19, 0, none⟩), .pointer (some ⟨b17, 0, none⟩), .pointer (some ⟨b10 + 1, 0, none⟩), .pointer (some ⟨b12, 0, none⟩), .pointer (some ⟨b5 + 1, 0, none⟩)]) wx fun e w' => YRes (fun wx D => ∃ fl fb sg sw, J2 w D0 G n E la lc ga gc FB NX KN ah4 first next kd b5 TX tc tx (b5 + 1) CO comp b10 (b10 + 1) b12 S b13 FL flow RE PA VI b17 b18 IT b19 (b19 + 1) (b19 + 2) item fl fb sg sw wx D) (fun wx D => ∃ fl fb sg sw, J2 w D0 G n E la lc ga gc FB NX KN ah4 first next kd b5 TX tc tx (b5 + 1) CO comp b10 (b10 + 1) b12 S b13 FL flow RE PA VI b17 b18 IT b19 (b19 + 1) (b19 + 2) item fl fb sg sw wx D) D wx w' e) := by
        rintro wx D f t ⟨fl, fb, sg, sw, h1⟩ hf ht
        have hb4 := h1.bd
        refine (try_any wx b17 b18 IT b19 (b19 + 1) (b19 + 2) item sg sw false h1.j.ew h1.j.mw h1.j.dis h1.fw h1.c17 h1.c18 h1.ri (h1.x1 IT (.inr (.inr rfl))).2.2.2.2 (fun b hb => ⟨(h1.x1 b hb).1, (h1.x1 b hb).2.1, (h1.x1 b hb).2.2.1⟩) h1.x2 h1.x3 f t hf ht (by omega)).mono ?_
        rintro e w' ⟨⟨r, rfl⟩, hm⟩
        obtain ⟨g1, g2⟩ := h1.turn hm
        exact ⟨⟨r, rfl, fun _ => g1, fun _ => g1⟩, g2⟩
      have HDC := fun _ : Unit => HDP.out (fun wx D => ∃ fl fb sg sw, J2 w D0 G n E la lc ga gc FB NX KN ah4 first next kd b5 TX tc tx (b5 + 1) CO comp b10 (b10 + 1) b12 S b13 FL flow RE PA VI b17 b18 IT b19 (b19 + 1) (b19 + 2) item fl fb sg sw wx D) (fun wx D => ∃ fl fb sg sw, J2 w D0 G n E la lc ga gc FB NX KN ah4 first next kd b5 TX tc tx (b5 + 1) CO comp b10 (b10 + 1) b12 S b13 FL flow RE PA VI b17 b18 IT b19 (b19 + 1) (b19 + 2) item fl fb sg sw wx D) (fun w w' D D' h k hD => by
          obtain ⟨fl, fb, sg, sw, h1⟩ := h
          exact ⟨fl, fb, sg, sw, h1.step k hD⟩) CO comp (fun w D h => by
          obtain ⟨fl, fb, sg, sw, h1⟩ := h
          exact ⟨h1.j.ew.rc, h1.j.ew.lt _ (.inr (.inr (.inr (.inr (.inl rfl)))))⟩) HCR.out 4 ⟨by decide, by decide⟩ 147 (cf Ybaz.func147 (by kernel_rfl) (by kernel_rfl)) #[.pointer (some ⟨b19 + 2, 0, none⟩), .pointer (some ⟨b19 + 1, 0, none⟩), .pointer (some ⟨b18, 0, none⟩), .pointer (some ⟨b19, 0, none⟩), .pointer (some ⟨b17, 0, none⟩), .pointer (some ⟨b10 + 1, 0, none⟩), .pointer (some ⟨b12, 0, none⟩), .pointer (some ⟨b5 + 1, 0, none⟩)] (fun wx D f t d h hf ht hd hk => by
          rcases hd with rfl | rfl
          · exact absurd (by decide) hk
          · exact HTY.out wx D f t h hf ht) w17 D3 ⟨fl3, fb3, false, false, HJ2.out⟩ qq HQQ.out HD17q.out
      go_upto_region 19 with (first
        | (go_at_call 54; refine (HDC ()).mono ?_; clear HDC; rintro e w18 ⟨rfl, D4, hyi, hde18, _, _⟩))
      have hy : ∃ fl fb sg sw, J2 w D0 G n E la lc ga gc FB NX KN ah4 first next kd b5 TX tc tx (b5 + 1) CO comp b10 (b10 + 1) b12 S b13 FL flow RE PA VI b17 b18 IT b19 (b19 + 1) (b19 + 2) item fl fb sg sw w18 D4 := hyi.elim id id
      obtain ⟨fl4, fb4, sg4, sw4, hj4⟩ := hy
      have HJ4 : Hid _ := hj4
      have HD18 : Hid _ := hde18
      clear hyi hj4 hde18 c6 HJ2 HD17q HQQ
      have c19 : w18.cell? ⟨b19, 0, none⟩ = some (.bool sg4) := cell_of _ _ 0 _ _ HJ4.out.fw.f1
      have c21 : w18.cell? ⟨b19 + 2, 0, none⟩ = some (.bool false) := cell_of _ _ 0 _ _ HJ4.out.fw.f3
      have c6 : w18.cell? ⟨b5 + 1, 0, none⟩ = some (.slice (some ⟨CO, 0, none⟩) n n) := cell_of _ _ 0 _ _ HJ4.out.j.ew.c6
      have HDC := fun _ : Unit => HDP.out (fun wx D => ∃ fl fb sg sw, J2 w D0 G n E la lc ga gc FB NX KN ah4 first next kd b5 TX tc tx (b5 + 1) CO comp b10 (b10 + 1) b12 S b13 FL flow RE PA VI b17 b18 IT b19 (b19 + 1) (b19 + 2) item fl fb sg sw wx D) (fun wx D => ∃ fl fb sg sw, J2 w D0 G n E la lc ga gc FB NX KN ah4 first next kd b5 TX tc tx (b5 + 1) CO comp b10 (b10 + 1) b12 S b13 FL flow RE PA VI b17 b18 IT b19 (b19 + 1) (b19 + 2) item fl fb sg sw wx D) (fun w w' D D' h k hD => by
          obtain ⟨fl, fb, sg, sw, h1⟩ := h
          exact ⟨fl, fb, sg, sw, h1.step k hD⟩) CO comp (fun w D h => by
          obtain ⟨fl, fb, sg, sw, h1⟩ := h
          exact ⟨h1.j.ew.rc, h1.j.ew.lt _ (.inr (.inr (.inr (.inr (.inl rfl)))))⟩) HCR.out 32 ⟨by decide, by decide⟩ 147 (cf Ybaz.func147 (by kernel_rfl) (by kernel_rfl)) #[.pointer (some ⟨b19 + 2, 0, none⟩), .pointer (some ⟨b19 + 1, 0, none⟩), .pointer (some ⟨b18, 0, none⟩), .pointer (some ⟨b19, 0, none⟩), .pointer (some ⟨b17, 0, none⟩), .pointer (some ⟨b10 + 1, 0, none⟩), .pointer (some ⟨b12, 0, none⟩), .pointer (some ⟨b5 + 1, 0, none⟩)] (fun wx D f t d h hf ht hd hk => by
          rcases hd with rfl | rfl
          · exact absurd (by decide) hk
          · exact absurd (by decide) hk) w18 D4 ⟨fl4, fb4, sg4, sw4, HJ4.out⟩ (some CO) (fun g e => by cases e; exact HJ4.out.j.ew.rc.isC hn0) HD18.out
      have fin : ∀ (wx : World) (D : Nat → Prop), (∃ fl fb sg sw, J2 w D0 G n E la lc ga gc FB NX KN ah4 first next kd b5 TX tc tx (b5 + 1) CO comp b10 (b10 + 1) b12 S b13 FL flow RE PA VI b17 b18 IT b19 (b19 + 1) (b19 + 2) item fl fb sg sw wx D) → ∃ v, wx.cell? ⟨b10, 0, none⟩ = some v ∧ CAOut w wx G D0 (.returned v) := by
        rintro wx D ⟨fl, fb, sg, sw, h1⟩
        obtain ⟨fc, F, q1, q2, q3⟩ := h1.j.mw.fd
        exact ⟨_, cell_of _ _ 0 _ _ q1, fb, fl, fc, F, rfl, q2, q3, by have := h1.bd; omega, fun b hb => h1.j.mn b (.inr (.inl hb)), h1.j.kp⟩
      have HFI : Hid _ := fin
      clear fin
      cases sg4 with
      | false =>
        go_upto_region 21 with (first
          | (go_at_call 54; refine (HDC ()).mono ?_; clear HDC; rintro e w19 ⟨rfl, D5, hyi, _, _, _⟩))
        obtain ⟨v, hv1, hv2⟩ := HFI.out w19 D5 (hyi.elim id id)
        go_wp2
        go_ret
        exact hv2
      | true =>
        go_upto_region 21 with (first
          | (go_at_call 54; refine (HDC ()).mono ?_; clear HDC; rintro e w19 ⟨rfl, D5, hyi, _, _, _⟩))
        obtain ⟨v, hv1, hv2⟩ := HFI.out w19 D5 (hyi.elim id id)
        go_wp2
        go_ret
        exact hv2
end Go.Proofs.YbulkdvbsGreat

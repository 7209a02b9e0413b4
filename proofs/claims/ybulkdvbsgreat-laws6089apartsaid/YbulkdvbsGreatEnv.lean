/-
  The closures of cycleAnomalies: what they share.
-/
import Derived.Test.YbulkdvbsGreatAdd
import Derived.Test.YbulkdvbsGreatPathW
namespace Go.Proofs.YbulkdvbsGreat
open Go.RowKit

section
variable (G n E : Nat) (la : Option Addr) (lc : Nat) (ga : Option Addr) (gc FB NX KN : Nat) (ah : Value) (first : Nat → Nat) (next kd : Nat → Int) (b5 TX tc : Nat) (tx : Nat → Int) (b6 CO : Nat) (comp : Nat → Int) (b10 b11 b12 S b13 FL : Nat) (flow : Nat → Int)
/-- The blocks that are only read. -/
def eB (b : Nat) : Prop := gBlk G ga FB NX KN n ah b ∨ b = b5 ∨ b = TX ∨ b = b6 ∨ b = CO ∨ b = b11 ∨ b = b12 ∨ b = b13 ∨ b = FL
/-- What the closures read. -/
structure EW (w : World) : Prop where
  gl : GL w G n E la lc ga gc FB NX KN ah first next kd
  ao : Ah w n ah true
  t5 : w.heap[b5]? = some (.cells #[.slice (some ⟨TX, 0, none⟩) n tc] 38)
  rx : Row w TX n (fun i => .int .u64 (tx i))
  c6 : w.heap[b6]? = some (.cells #[.slice (some ⟨CO, 0, none⟩) n n] 95)
  rc : Row w CO n (fun i => .int .i32 (comp i))
  c11 : w.heap[b11]? = some (.cells #[.func (.func 141) #[] #[.pointer (some ⟨b5, 0, none⟩), .pointer (some ⟨b10, 0, none⟩)]] 246)
  c12 : w.heap[b12]? = some (.cells #[.pointer (some ⟨S, 0, none⟩)] 239)
  c13 : w.heap[b13]? = some (.cells #[.slice (some ⟨FL, 0, none⟩) n n] 95)
  rf : Row w FL n (fun i => .int .i32 (flow i))
  lt : ∀ b, eB G n ga FB NX KN ah b5 TX b6 CO b11 b12 b13 FL b → b < w.heap.size
  hn : n ≤ 5
  hE : E ≤ 100000
end
section
variable {G n E : Nat} {la : Option Addr} {lc : Nat} {ga : Option Addr} {gc FB NX KN : Nat} {ah : Value} {first : Nat → Nat} {next kd : Nat → Int} {b5 TX tc : Nat} {tx : Nat → Int} {b6 CO : Nat} {comp : Nat → Int} {b10 b11 b12 S b13 FL : Nat} {flow : Nat → Int} {w w' : World}
theorem EW.keep (h : EW G n E la lc ga gc FB NX KN ah first next kd b5 TX tc tx b6 CO comp b10 b11 b12 S b13 FL flow w) {F : Nat → Prop} (k : Keep F w w') (hF : ∀ b, eB G n ga FB NX KN ah b5 TX b6 CO b11 b12 b13 FL b → ¬ F b) : EW G n E la lc ga gc FB NX KN ah first next kd b5 TX tc tx b6 CO comp b10 b11 b12 S b13 FL flow w' := by
  have hs := k.size
  refine ⟨h.gl.keepB k (fun b hb => hF b (.inl hb)), h.ao.keep k (fun b hb => hF b (.inl (.inr (.inr (.inr (.inr (.inr hb))))))), k.at h.t5 (hF _ (.inr (.inl rfl))), h.rx.keep (k.block _ (h.lt _ (.inr (.inr (.inl rfl)))) (hF _ (.inr (.inr (.inl rfl))))), k.at h.c6 (hF _ (.inr (.inr (.inr (.inl rfl))))), h.rc.keep (k.block _ (h.lt _ (.inr (.inr (.inr (.inr (.inl rfl)))))) (hF _ (.inr (.inr (.inr (.inr (.inl rfl))))))), k.at h.c11 (hF _ (.inr (.inr (.inr (.inr (.inr (.inl rfl))))))), k.at h.c12 (hF _ (.inr (.inr (.inr (.inr (.inr (.inr (.inl rfl)))))))), k.at h.c13 (hF _ (.inr (.inr (.inr (.inr (.inr (.inr (.inr (.inl rfl))))))))), h.rf.keep (k.block _ (h.lt _ (.inr (.inr (.inr (.inr (.inr (.inr (.inr (.inr rfl))))))))) (hF _ (.inr (.inr (.inr (.inr (.inr (.inr (.inr (.inr rfl)))))))))), fun b hb => Nat.lt_of_lt_of_le (h.lt b hb) hs, h.hn, h.hE⟩
end
/-- What the closures turn: the anomalies found, the searcher. -/
structure MW (w : World) (b10 : Nat) (fb : Option Addr) (fl S G n RE PA VI : Nat) : Prop where
  fd : FD w b10 fb fl
  sr : ∃ k re pa vi, SR w S G n k RE PA VI re pa vi
  d1 : ¬ sOwn S RE PA VI b10
  d2 : ∀ b, fb = some ⟨b, 0, none⟩ → ¬ sOwn S RE PA VI b
def mB (b10 : Nat) (fb : Option Addr) (S RE PA VI b : Nat) : Prop := b = b10 ∨ fb = some ⟨b, 0, none⟩ ∨ sOwn S RE PA VI b
theorem FD.lt {w : World} {b10 : Nat} {fb : Option Addr} {fl : Nat} (h : FD w b10 fb fl) : b10 < w.heap.size ∧ ∀ b, fb = some ⟨b, 0, none⟩ → b < w.heap.size := by
  obtain ⟨fc, F, q1, q2, _⟩ := h
  exact ⟨heap_lt q1, fun b hb => q2.lt hb⟩
theorem SR.own {w : World} {S G n : Nat} {k : Int} {RE PA VI : Nat} {re pa vi : Nat → Int} (h : SR w S G n k RE PA VI re pa vi) (b : Nat) (hb : sOwn S RE PA VI b) : b < w.heap.size := by
  obtain ⟨l1, l2, l3⟩ := h.lt
  have l0 := heap_lt h.blk
  rcases hb with q | q | q | q <;> omega
theorem MW.lt {w : World} {b10 : Nat} {fb : Option Addr} {fl S G n RE PA VI : Nat} (h : MW w b10 fb fl S G n RE PA VI) (b : Nat) (hb : mB b10 fb S RE PA VI b) : b < w.heap.size := by
  obtain ⟨k, re, pa, vi, hs⟩ := h.sr
  rcases hb with q | q | q
  · rw [q]; exact h.fd.lt.1
  · exact h.fd.lt.2 b q
  · exact hs.own b q
theorem MW.keep {w w' : World} {b10 : Nat} {fb : Option Addr} {fl S G n RE PA VI : Nat} (h : MW w b10 fb fl S G n RE PA VI) {F : Nat → Prop} (k : Keep F w w') (hF : ∀ b, mB b10 fb S RE PA VI b → ¬ F b) : MW w' b10 fb fl S G n RE PA VI := by
  obtain ⟨k0, re, pa, vi, hs⟩ := h.sr
  exact ⟨h.fd.keep k (hF _ (.inl rfl)) (fun b hb => hF b (.inr (.inl hb))), ⟨k0, re, pa, vi, hs.keep k (fun b hb => hF b (.inr (.inr hb)))⟩, h.d1, h.d2⟩
/-- A slice, if not nil, lies in a block that is newer than w. -/
def Newer (w : World) (x : Value) : Prop := ∀ B o s m c, x = .slice (some ⟨B, o, s⟩) m c → w.heap.size ≤ B
theorem Src1.keepN {w0 w w' : World} {x : Value} {m : Nat} {y : Nat → Value} (h : Src1 w x m y) (hn : Newer w0 x) {F : Nat → Prop} (k : Keep F w w') (hF : ∀ b, F b → b < w0.heap.size) : Src1 w' x m y := by
  rcases h with h | ⟨B, o, c, h1, h2⟩
  · exact .inl h
  · refine .inr ⟨B, o, c, h1, fun i hi => ?_⟩
    have hb : B < w.heap.size := by
      by_cases q : B < w.heap.size
      · exact q
      · have := h2 i hi
        have e : w.heap[B]? = none := Array.getElem?_eq_none (by omega)
        simp [World.cell?, e] at this
    exact (k.cell ⟨B, o + i, none⟩ hb (fun q => by have := hF B q; have := hn B o none m c h1; omega)).trans (h2 i hi)
/-- Behind a path that was asked for: nodes and edges, or nothing. -/
def PE (w w' : World) (n : Nat) (back edges : Value) : Prop := (Newer w back ∧ Newer w edges) ∧ ∃ (m : Nat) (f : Nat → Nat) (d : Nat → Int), m ≤ 6 ∧ Src1 w' back m (fun i => .int .i64 (f i : Int)) ∧ Src1 w' edges m (fun i => .int .u8 (d i)) ∧ (∀ i, i < m → f i < n) ∧ ((back = .slice none 0 0) ∨ ∃ A c, back = .slice (some ⟨A, 0, none⟩) m c)
/-- The same, as an ending. -/
def PEnd (w w' : World) (S G n RE PA VI : Nat) (e : Ending) : Prop := (∃ back edges, e = .returned (.tuple #[back, edges]) ∧ PE w w' n back edges) ∧ (∃ k re pa vi, SR w' S G n k RE PA VI re pa vi) ∧ Keep (sOwn S RE PA VI) w w'
theorem pend_of {w w' : World} {S G n RE PA VI : Nat} {first : Nat → Nat} {next kd comp : Nat → Int} {allow : Int} {from_ tt : Nat} {q : Prop} {e : Ending} (h : PathRes w w' S G n RE PA VI first next kd comp allow from_ tt q e ∧ Keep (sOwn S RE PA VI) w w') : PEnd w w' S G n RE PA VI e := by
  obtain ⟨⟨hs, h⟩, hk⟩ := h
  refine ⟨?_, hs, hk⟩
  rcases h with ⟨m, A, B, c1, c2, f, d, h1, h2, h3, h4, h5, h6, h7, h8, _⟩ | ⟨h1, _⟩
  · exact ⟨_, _, h3, ⟨fun B' o s m' c' q => (by injection q with q; injection q with q; injection q with q; omega), fun B' o s m' c' q => (by injection q with q; injection q with q; injection q with q; omega)⟩, m, f, d, h2, .inr ⟨A, 0, c1, rfl, fun i hi => by rw [Nat.zero_add]; exact h4.cell i hi⟩, .inr ⟨B, 0, c2, rfl, fun i hi => by rw [Nat.zero_add]; exact h5.cell i hi⟩, h6, .inr ⟨A, c1, rfl⟩⟩
  · exact ⟨_, _, h1, ⟨nofun, nofun⟩, 0, fun _ => 0, fun _ => 0, by omega, .inl ⟨rfl, rfl⟩, .inl ⟨rfl, rfl⟩, fun i hi => by omega, .inl rfl⟩
theorem pe_nil (w w' : World) (n : Nat) : PE w w' n (.slice none 0 0) (.slice none 0 0) := ⟨⟨nofun, nofun⟩, 0, fun _ => 0, fun _ => 0, by omega, .inl ⟨rfl, rfl⟩, .inl ⟨rfl, rfl⟩, fun i hi => by omega, .inl rfl⟩
end Go.Proofs.YbulkdvbsGreat

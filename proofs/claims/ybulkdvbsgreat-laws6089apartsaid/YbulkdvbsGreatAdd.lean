/-
  cycleAnomalies$1 ('add'), walked.
-/
import Derived.Test.YbulkdvbsGreatHeap
import Derived.Test.YbulkdvbsGreatSearch
namespace Go.Proofs.YbulkdvbsGreat
open Go.RowKit

/-- A slice of m one-cell values y, from anywhere. -/
def Src1 (w : World) (x : Value) (m : Nat) (y : Nat → Value) : Prop := (x = .slice none 0 0 ∧ m = 0) ∨ ∃ B o c, x = .slice (some ⟨B, o, none⟩) m c ∧ ∀ i, i < m → w.cell? ⟨B, o + i, none⟩ = some (y i)
theorem Src1.keep {w w' : World} {x : Value} {m : Nat} {y : Nat → Value} (h : Src1 w x m y) (k : Keep (fun _ => False) w w') : Src1 w' x m y := by
  rcases h with h | ⟨B, o, c, h1, h2⟩
  · exact .inl h
  · refine .inr ⟨B, o, c, h1, fun i hi => ?_⟩
    have hb : B < w.heap.size := by
      by_cases q : B < w.heap.size
      · exact q
      · have := h2 i hi
        have e : w.heap[B]? = none := Array.getElem?_eq_none (by omega)
        simp [World.cell?, e] at this
    exact (k.cell ⟨B, o + i, none⟩ hb id).trans (h2 i hi)
theorem rowK_join (n m : Nat) (f : Nat → Nat → Value) (y : Nat → Value) : rowK (n + m) 1 (fun i _ => if i < n then f i 0 else y (i - n)) = rowK n 1 f ++ (List.range m).map y := by
  apply List.ext_getElem?
  intro j
  by_cases h1 : j < n
  · rw [List.getElem?_append_left (by rw [rowK_len]; omega), rowK_at _ _ _ _ (by omega), rowK_at _ _ _ _ (by omega)]
    simp [h1, Nat.mod_one]
  · rw [List.getElem?_append_right (by rw [rowK_len]; omega), rowK_len]
    by_cases h2 : j < n + m
    · rw [rowK_at _ _ _ _ (by omega)]
      simp [h1, show j - n < m by omega]
    · rw [List.getElem?_eq_none (by rw [rowK_len]; omega), List.getElem?_eq_none (by simp; omega)]
/-- 'append(v, x...)'. -/
theorem run_join (w : World) (t e ty : TypeId) (bytes : Nat) (z : Value) (ht : Ybaz.prog.underlying t = some (.slice e)) (hinf : ∃ i, Ybaz.prog.info? e = some i ∧ i.zero = some z ∧ i.size = 1 ∧ i.bytes = bytes) (hzs : z.cells.size = 1) (hby : bytes ≤ 1024)
    (a : Option Addr) (n c : Nat) (f : Nat → Nat → Value) (hv : Vec w e 1 a n c f) (hn0 : 0 < n) (x : Value) (m : Nat) (y : Nat → Value) (hx : Src1 w x m y) (h1 : ∀ j, j < m → (y j).oneCell' = true) (hn : n ≤ 100000000) (hm : m ≤ 100000000) :
    ∃ g cap w', (opApp t ty (.slice a n c) x).run Ybaz.prog w = .ok (.value (.slice (some ⟨g, 0, none⟩) (n + m) cap)) w' ∧ Vec w' e 1 (some ⟨g, 0, none⟩) (n + m) cap (fun i _ => if i < n then f i 0 else y (i - n)) ∧ Keep (fun b => a = some ⟨b, 0, none⟩) w w' ∧ (a = some ⟨g, 0, none⟩ ∨ g = w.heap.size) ∧ g < w'.heap.size := by
  obtain ⟨i, hi, hz, hsize, hb⟩ := hinf
  rcases hx with ⟨rfl, rfl⟩ | ⟨B, o, c', rfl, hc⟩
  · obtain ⟨g, rfl, hg, _⟩ := hv.blk hn0
    refine ⟨g, c, w, ?_, (hv.congr Nat.one_pos (fun i k hi hk => ?_)), Keep.refl _ _, .inl rfl, hg⟩
    · unfold opApp
      rw [Sem.run_bind, run_append_owned_none (P := Ybaz.prog) w 0 t ty e i 1 ht hi _ n _ hv.own]
      simp
    · have : k = 0 := by omega
      subst this
      simp [hi]
  · obtain ⟨v', w', hr, h2, h3, _, h5⟩ := run_append_own_at (P := Ybaz.prog) w 0 t ty e i z 1 bytes ht hi hz hsize hb hzs Nat.one_pos (.slice a n c) n _ hv.own ⟨B, o, none⟩ m c' ((List.range m).map y) (by simp) (fun j u hu => by
        have hj : j < m := by have := (List.getElem?_eq_some_iff.1 hu).1; simpa using this
        rw [add_none, hc j hj]; simpa [hj] using hu) (fun u hu => by
        simp only [List.mem_map] at hu
        obtain ⟨j, hj, rfl⟩ := hu
        exact h1 j (by simpa using hj)) (by unfold maxLen; omega) (by
        have : (n + m) * bytes ≤ 200000000 * 1024 := Nat.mul_le_mul (by omega) hby
        omega) (Nat.zero_le _)
    obtain ⟨g, cap, rfl, _, hlt⟩ := h2.form (by omega)
    refine ⟨g, cap, w', ?_, ⟨by rw [rowK_join]; exact h2⟩, ((grown_keep h3).wide fun b ⟨o, s, e⟩ => hv.plain e), ?_, hlt⟩
    · unfold opApp
      rw [Sem.run_bind, hr]
      simp
    · rcases h5 with h5 | h5
      · left
        cases a with
        | none => simp [Value.ownBlock] at h5
        | some q => simp [Value.ownBlock] at h5; exact hv.plain (by rw [h5])
      · right; simpa [Value.ownBlock] using h5
theorem Vec.one (w : World) (e : TypeId) (x : Value) : Vec (w.alloc (.cells #[x] e)) e 1 (some ⟨w.heap.size, 0, none⟩) 1 1 (fun _ _ => x) :=
  Vec.made w e 1 1 #[x] _ rfl (by unfold maxLen; omega) (fun j hj => (by
    have h0 : j = 0 := by omega
    subst h0
    rfl))

/-- An anomaly, cell by cell: a kind, a pointer, two slices. -/
def AnOk (f : Nat → Value) : Prop := ∃ (x : Int) (p a b : Option Addr) (n c n' c' : Nat), 0 ≤ x ∧ x ≤ 255 ∧ f 0 = .int .u8 x ∧ f 1 = .pointer p ∧ f 2 = .slice a n c ∧ f 3 = .slice b n' c'
/-- The anomalies found so far: fl of them, their row in block fb. -/
def FD (w : World) (b10 : Nat) (fb : Option Addr) (fl : Nat) : Prop := ∃ fc F, w.heap[b10]? = some (.cells #[.slice fb fl fc] 39) ∧ Vec w 157 4 fb fl fc F ∧ ∀ i, i < fl → AnOk (F i)
theorem FD.keep {w w' : World} {b10 : Nat} {fb : Option Addr} {fl : Nat} (h : FD w b10 fb fl) {F : Nat → Prop} (k : Keep F w w') (h1 : ¬ F b10) (h2 : ∀ b, fb = some ⟨b, 0, none⟩ → ¬ F b) : FD w' b10 fb fl := by
  obtain ⟨fc, F, q1, q2, q3⟩ := h
  exact ⟨fc, F, k.at q1 h1, q2.keep k h2, q3⟩
/-- Behind add. -/
def Added (w w' : World) (b10 : Nat) (fb : Option Addr) (fl : Nat) : Prop := ∃ fb', FD w' b10 fb' (fl + 1) ∧ (fb' = fb ∨ ∃ b, fb' = some ⟨b, 0, none⟩ ∧ w.heap.size ≤ b) ∧ Keep (fun b => b = b10 ∨ fb = some ⟨b, 0, none⟩) w w'
theorem inf157 : ∃ i, Ybaz.prog.info? 157 = some i ∧ i.zero = some (.agg #[.int .u8 0, .pointer none, .slice none 0 0, .slice none 0 0]) ∧ i.size = 4 ∧ i.bytes = 64 := inf_of (by kernel_rfl)
/-- A new anomaly, cell by cell. -/
def an (x : Int) (s t : Value) (j : Nat) : Value := if j = 0 then .int .u8 x else if j = 1 then .pointer none else if j = 2 then s else t
theorem new4 (w : World) (x : Int) (s t : Value) (e : TypeId) : ∀ j, j < 4 → (w.alloc (.cells #[.int .u8 x, .pointer none, s, t] e)).cell? ((⟨w.heap.size, 0, none⟩ : Addr).add j) = some (an x s t j) := fun j hj => by
  rw [add_none]
  match j, hj with
  | 0, _ => exact World.cell?_alloc_at _ _ _ _ rfl
  | 1, _ => exact World.cell?_alloc_at _ _ _ _ rfl
  | 2, _ => exact World.cell?_alloc_at _ _ _ _ rfl
  | 3, _ => exact World.cell?_alloc_at _ _ _ _ rfl

/-- The anomaly as it grows: k transactions and k1 edges. -/
structure AS (w4 wr : World) (b : Nat) (cls : Int) (ca : Option Addr) (k cc : Nat) (f1 : Nat → Nat → Value) (ea : Option Addr) (k1 ec : Nat) (f2 : Nat → Nat → Value) : Prop where
  blk : wr.heap[b]? = some (.cells #[.int .u8 cls, .pointer none, .slice ca k cc, .slice ea k1 ec] 157)
  v1 : Vec wr 31 1 ca k cc f1
  v2 : Vec wr 96 1 ea k1 ec f2
  kp : Keep (fun x => b ≤ x) w4 wr
  h1 : ∀ x, ca = some ⟨x, 0, none⟩ → b < x
  h2 : ∀ x, ea = some ⟨x, 0, none⟩ → b < x
theorem AS.first {w4 wr w7 : World} {b : Nat} {cls : Int} {ca ea : Option Addr} {k cc k1 ec : Nat} {f1 f2 : Nat → Nat → Value} (h : AS w4 wr b cls ca k cc f1 ea k1 ec f2) {g cap : Nat} {f : Nat → Nat → Value} (o : Obj) (hv : Vec w7 31 1 (some ⟨g, 0, none⟩) (k + 1) cap f) (hk : Keep (fun x => ca = some ⟨x, 0, none⟩) (wr.alloc o) w7) (hg : ca = some ⟨g, 0, none⟩ ∨ g = (wr.alloc o).heap.size) (hb : b < wr.heap.size) :
    AS w4 (w7.setCell ⟨b, 2, none⟩ (.slice (some ⟨g, 0, none⟩) (k + 1) cap)) b cls (some ⟨g, 0, none⟩) (k + 1) cap f ea k1 ec f2 := by
  obtain ⟨t1, t2, t3, _, t5⟩ := field_push (i := 2) h.blk hv hk hg (h.v1.off h.blk (by decide))
  refine ⟨t1, t2, h.v2.keep t3 ?_, h.kp.trans t3 ?_, fun x hx => ?_, h.h2⟩
  · rintro x hx (q | q)
    · have := h.h2 x hx; omega
    · exact h.v1.apart h.v2 (by decide) q hx
  · rintro x (q | q)
    · exact .inl (by omega)
    · exact .inl (by have := h.h1 x q; omega)
  · injection hx with hx; injection hx with hx
    rcases t5 with q | q
    · have := h.h1 g q; omega
    · omega
theorem AS.second {w4 wr w7 : World} {b : Nat} {cls : Int} {ca ea : Option Addr} {k cc k1 ec : Nat} {f1 f2 : Nat → Nat → Value} (h : AS w4 wr b cls ca k cc f1 ea k1 ec f2) {g cap : Nat} {f : Nat → Nat → Value} (o : Obj) (hv : Vec w7 96 1 (some ⟨g, 0, none⟩) (k1 + 1) cap f) (hk : Keep (fun x => ea = some ⟨x, 0, none⟩) (wr.alloc o) w7) (hg : ea = some ⟨g, 0, none⟩ ∨ g = (wr.alloc o).heap.size) (hb : b < wr.heap.size) :
    AS w4 (w7.setCell ⟨b, 3, none⟩ (.slice (some ⟨g, 0, none⟩) (k1 + 1) cap)) b cls ca k cc f1 (some ⟨g, 0, none⟩) (k1 + 1) cap f := by
  obtain ⟨t1, t2, t3, _, t5⟩ := field_push (i := 3) h.blk hv hk hg (h.v2.off h.blk (by decide))
  refine ⟨t1, h.v1.keep t3 ?_, t2, h.kp.trans t3 ?_, h.h1, fun x hx => ?_⟩
  · rintro x hx (q | q)
    · have := h.h1 x hx; omega
    · exact h.v1.apart h.v2 (by decide) hx q
  · rintro x (q | q)
    · exact .inl (by omega)
    · exact .inl (by have := h.h2 x q; omega)
  · injection hx with hx; injection hx with hx
    rcases t5 with q | q
    · have := h.h2 g q; omega
    · omega
theorem AS.keepF {w4 wr w' : World} {b : Nat} {cls : Int} {ca ea : Option Addr} {k cc k1 ec : Nat} {f1 f2 : Nat → Nat → Value} (h : AS w4 wr b cls ca k cc f1 ea k1 ec f2) (q : Keep (fun _ => False) wr w') : AS w4 w' b cls ca k cc f1 ea k1 ec f2 :=
  ⟨q.at h.blk id, h.v1.keep q (fun _ _ r => r), h.v2.keep q (fun _ _ r => r), h.kp.trans q (fun _ r => r.elim), h.h1, h.h2⟩

attribute [local go_sem ↓ 2000] exec_app
set_option maxHeartbeats 8000000 in
set_option maxRecDepth 100000 in
theorem add_any (b5 b10 TX n tc : Nat) (tx : Nat → Int) (cls : Int) (u m : Nat) (d : Int) (back edges : Value) (bk : Nat → Nat) (ed : Nat → Int) (fb : Option Addr) (fl : Nat) (w : World)
    (hfd : FD w b10 fb fl) (htx : w.heap[b5]? = some (.cells #[.slice (some ⟨TX, 0, none⟩) n tc] 38)) (hrx : Row w TX n (fun i => .int .u64 (tx i))) (hTX : TX < w.heap.size) (hu : u < n) (hm : m ≤ 6) (hb : Src1 w back m (fun i => .int .i64 (bk i : Int))) (hbk : ∀ i, i < m → bk i < n) (he : Src1 w edges m (fun i => .int .u8 (ed i))) (hfl : fl ≤ 100) (hcls : 0 ≤ cls ∧ cls ≤ 255) :
    Calls Ybaz.prog 141 #[.int .u8 cls, .int .i64 (u : Int), .int .u8 d, back, edges, .pointer (some ⟨b5, 0, none⟩), .pointer (some ⟨b10, 0, none⟩)] w fun e w' => e = .returned (.tuple #[]) ∧ Added w w' b10 fb fl := by
  -- the cycle
  obtain ⟨g1, cp1, w1, r1, v1, k1, o1, l1⟩ := run_join (w.alloc (.cells #[.int .i64 (u : Int)] 3)) 62 3 62 8 _ Ybaz.underlying62 inf3 rfl (by decide) _ 1 1 _ (Vec.one w 3 (.int .i64 (u : Int))) (by decide) back m _ (hb.keep (Keep.alloc _ w _)) (fun _ _ => rfl) (by decide) (by omega)
  have K1 : Keep (fun _ => False) w w1 := (Keep.alloc _ w _).trans k1 (fun b q => .inr (by injection q with q; injection q with q; omega))
  have hg1 : w.heap.size ≤ g1 := by
    rcases o1 with q | q
    · injection q with q; injection q with q; omega
    · rw [World.size_alloc] at q; omega
  -- the kinds
  have K2 := Keep.alloc (fun _ => False) w1 (.cells #[.int .u8 d] 96)
  have HPK : Hid (∀ (_ : Unit), Calls Ybaz.prog 142 #[edges] (w1.alloc (.cells #[.int .u8 d] 96)) fun e w' => PickOut (w1.alloc (.cells #[.int .u8 d] 96)) w' m e ∧ Keep (fun _ => False) (w1.alloc (.cells #[.int .u8 d] 96)) w') := fun _ => by
    rcases (he.keep K1).keep K2 with ⟨rfl, rfl⟩ | ⟨B, o, c, rfl, hc⟩
    · exact pick_any none 0 0 0 0 (fun _ => 0) _ (by omega) (fun h => by omega) (by rw [World.size_alloc]; omega) (fun i hi => by omega)
    · by_cases h0 : 0 < m
      · have hB : B < (w1.alloc (.cells #[.int .u8 d] 96)).heap.size := by
          by_cases q : B < (w1.alloc (.cells #[.int .u8 d] 96)).heap.size
          · exact q
          · have := hc 0 h0
            have e : (w1.alloc (.cells #[.int .u8 d] 96)).heap[B]? = none := Array.getElem?_eq_none (by omega)
            simp [World.cell?, e] at this
        exact pick_any _ B o m c ed _ (by omega) (fun _ => rfl) hB hc
      · exact pick_any _ 0 0 m c ed _ (by omega) (fun h => absurd h h0) (by rw [World.size_alloc]; omega) (fun i hi => by omega)
  have HV1 : Hid _ := v1
  have HK1 : Hid _ := K1
  have HFD : Hid _ := hfd
  have HTX : Hid _ := htx
  have HRX : Hid _ := hrx
  have HBK : Hid _ := hbk
  clear v1 k1 o1 K1 K2 hfd htx hrx hb he hbk
  go_enter Ybaz.func141, Ybaz.ntmps141
  go_upto_region 1 with (first
    | (go_at_call 142; refine (HPK.out ()).mono ?_; rintro e w3 ⟨⟨PK, pg, rfl, hpk1, hpk2, hpk3⟩, hk3⟩; obtain ⟨g4, cp4, w4, r4, v4, k4, o4, l4⟩ := run_join w3 155 96 155 1 _ Ybaz.underlying155 inf96 rfl (by decide) _ 1 1 _ ((Vec.one w1 96 (.int .u8 d)).keep hk3 (fun _ _ q => q)) (by decide) (.slice (some ⟨PK, 0, none⟩) m m) m (fun i => .int .u8 (pg i)) (.inr ⟨PK, 0, m, rfl, fun i hi => (by rw [Nat.zero_add]; exact hpk3.cell i hi)⟩) (fun _ _ => rfl) (by decide) (by omega)))
  have hk3s := hk3.size
  rw [World.size_alloc] at hk3s
  have K4 : Keep (fun _ => False) w1 w4 := ((Keep.alloc (fun _ => False) w1 _).trans hk3 (fun _ q => q.elim)).trans k4 (fun b q => .inr (by injection q with q; injection q with q; omega))
  have hg4 : w1.heap.size ≤ g4 := by
    rcases o4 with q | q
    · injection q with q; injection q with q; omega
    · omega
  have HK4 : Hid (Keep (fun _ => False) w w4) := HK1.out.trans K4 (fun _ q => q.elim)
  have HC4 : Hid (Vec w4 3 1 (some ⟨g1, 0, none⟩) (1 + m) cp1 (fun i _ => .int .i64 ((if i < 1 then u else bk (i - 1) : Nat) : Int))) := (HV1.out.keep K4 (fun _ _ q => q)).congr Nat.one_pos (fun i _ _ _ => by split <;> rfl)
  have HD4 : Hid (Vec w4 96 1 (some ⟨g4, 0, none⟩) (1 + m) cp4 (fun i _ => .int .u8 (if i < 1 then d else pg (i - 1)))) := v4.congr Nat.one_pos (fun i _ _ _ => by split <;> rfl)
  obtain ⟨cyc', HCy⟩ : ∃ c : Nat → Nat, Hid (c = fun i => if i < 1 then u else bk (i - 1)) := ⟨_, rfl⟩
  obtain ⟨kin, HKi⟩ : ∃ c : Nat → Int, Hid (c = fun i => if i < 1 then d else pg (i - 1)) := ⟨_, rfl⟩
  have HCN : Hid (∀ i, i < 1 + m → cyc' i < n) := by
    intro i hi
    rw [HCy.out]
    by_cases q : i < 1
    · simp only [q, if_true]; exact hu
    · simp only [q, if_false]; exact HBK.out _ (by omega)
  have HC5 : Hid (Vec w4 3 1 (some ⟨g1, 0, none⟩) (1 + m) cp1 (fun i _ => .int .i64 (cyc' i : Int))) := by rw [HCy.out]; exact HC4.out
  have HD5 : Hid (Vec w4 96 1 (some ⟨g4, 0, none⟩) (1 + m) cp4 (fun i _ => .int .u8 (kin i))) := by rw [HKi.out]; exact HD4.out
  clear HC4 HD4 HCy HKi r1 r4 v4 k4 o4 K4 hk3 hk3s hpk1 hpk2 hpk3 HPK HV1 HBK
  obtain ⟨M, HM⟩ : ∃ M, Hid (M = 1 + m) := ⟨_, rfl⟩
  rw [← HM.out] at HC5 HD5 HCN ⊢
  have hM1 : 1 ≤ M := by have := HM.out; omega
  have hM7 : M ≤ 7 := by have := HM.out; omega
  obtain ⟨_, hgg, hg1w, rc⟩ := HC5.out.row (by omega)
  injection hgg with hgg; injection hgg with hgg
  subst hgg
  have HRC : Hid (Row w4 g1 M (fun i => .int .i64 (cyc' i : Int))) := rc
  clear rc
  have HMI := fun _ : Unit => minI g1 M cp1 (fun i => (cyc' i : Int)) w4 (by omega) hM1 HRC.out.cell
  go_upto_region 2 with (first
    | (go_at_call 144; refine (HMI ()).mono ?_; clear HMI; rintro e w5 ⟨⟨j5, rfl, hj5⟩, rfl⟩; have HIX := fun _ : Unit => indexI g1 M cp1 (fun i => (cyc' i : Int)) _ j5 w4 (by omega) HRC.out.cell hj5 rfl)
    | (go_at_call 143; refine (HIX ()).mono ?_; clear HIX; rintro e w5 ⟨⟨lo, rfl, hlo⟩, rfl⟩))
  go_upto_region 3 with fail
  obtain ⟨b15, HB15⟩ : ∃ b, Hid (b = w4.heap.size) := ⟨_, rfl⟩
  have HA0 : Hid (AS w4 (w4.alloc (.cells #[.int .u8 cls, .pointer none, .slice none 0 0, .slice none 0 0] 157)) b15 cls none 0 0 (fun _ _ => .int .u64 0) none 0 0 (fun _ _ => .int .u8 0)) := by
    rw [HB15.out]
    exact ⟨heap_alloc_new _ _, Vec.nil _ _ _ _, Vec.nil _ _ _ _, (Keep.alloc _ w4 _), nofun, nofun⟩
  rw [← HB15.out]
  generalize w4.alloc (.cells #[.int .u8 cls, .pointer none, .slice none 0 0, .slice none 0 0] 157) = w5 at *
  have hbw : ∀ x, x < w.heap.size → x < b15 := fun x hx => by have := HK4.out.size; have := HB15.out; omega
  obtain ⟨fc, F, hfd1, hfd2, hfd3⟩ := HFD.out
  have hb5 := heap_lt HTX.out
  have hb10 := heap_lt hfd1
  have hg4w := HD5.out.lt rfl
  go_wp2
  go_loopg [34] M (fun gk s wr => ∃ (k cc ec : Nat) (ca ea : Option Addr) (f1 f2 : Nat → Nat → Value), k ≤ M ∧ s = .int .i64 (k : Int) ∧ gk = M - k ∧ Hid (AS w4 wr b15 cls ca k cc f1 ea k ec f2))
  case atStart => exact ⟨0, 0, 0, none, none, _, _, Nat.zero_le _, rfl, rfl, HA0⟩
  case round =>
    as_aux_lemma =>
      clear HA0
      obtain ⟨k, cc, ec, ca, ea, f1, f2, hk, rfl, rfl, HA⟩ := hrel
      have hbr := heap_lt HA.out.blk
      by_cases hlt : k < M
      · obtain ⟨j, hj, hjM⟩ : ∃ j : Nat, ((lo : Int) + (k : Int)).tmod (M : Int) = (j : Int) ∧ j < M := ⟨(lo + k) % M, by rw [Int.tmod_eq_emod_of_nonneg (by omega), ← Int.natCast_add]; rfl, Nat.mod_lt _ (by omega)⟩
        have k1 : (k : Int) < (M : Int) := by omega
        have k7 : (k : Int) < 7 := by omega
        have lo7 : (lo : Int) < 7 := by omega
        have M0 : ((M : Int) == 0) = false := by simp; omega
        have M1 : ¬ (M : Int) = 0 := by omega
        have j1 : (j : Int) < (M : Int) := by omega
        have j2 : (j : Int).toNat = j := by omega
        have hcn := HCN.out j hjM
        have cn1 : (cyc' j : Int) < (n : Int) := by omega
        have cn2 : (cyc' j : Int).toNat = cyc' j := by omega
        have sw : w4.heap.size ≤ wr.heap.size := HA.out.kp.size
        have c5 : wr.cell? ⟨b5, 0, none⟩ = some (.slice (some ⟨TX, 0, none⟩) n tc) := cell_of _ _ 0 _ _ (HA.out.kp.at (HK4.out.at HTX.out id) (by have := hbw b5 hb5; omega))
        have ej : wr.cell? ⟨g1, j, none⟩ = some (.int .i64 (cyc' j : Int)) := (HA.out.kp.cell ⟨g1, j, none⟩ hg1w (by have := HB15.out; show ¬ b15 ≤ g1; omega)).trans (HRC.out.cell j hjM)
        have et : wr.cell? ⟨TX, cyc' j, none⟩ = some (.int .u64 (tx (cyc' j))) := (HA.out.kp.cell ⟨TX, cyc' j, none⟩ (by have := HK4.out.size; show TX < _; omega) (by have := hbw TX hTX; show ¬ b15 ≤ TX; omega)).trans ((HK4.out.cell ⟨TX, cyc' j, none⟩ hTX id).trans (HRX.out.cell _ hcn))
        have c2 : wr.cell? ⟨b15, 2, none⟩ = some (.slice ca k cc) := cell_of _ _ 2 _ _ HA.out.blk
        obtain ⟨g7, cap7, w7, hr7, hv7, hk7, hg7, _⟩ := run_push (wr.alloc (.cells #[.int .u64 (tx (cyc' j))] 31)).drew 38 31 38 1 8 _ Ybaz.underlying38 inf31 rfl Nat.one_pos (by decide) ca k cc _ ((HA.out.v1.keep ((Keep.refl (fun _ => False) _).drew) (fun _ _ q => q)).alloc _) ⟨wr.heap.size, 0, none⟩ 1 (fun _ => .int .u64 (tx (cyc' j))) (new1 wr.drew _ 31) (fun _ _ => rfl) (by omega)
        have c2a : (wr.alloc (.cells #[.int .u64 (tx (cyc' j))] 31)).cell? ⟨b15, 2, none⟩ = some (.slice ca k cc) := cell_of _ _ 2 _ _ (heap_grow _ HA.out.blk)
        have hb7 := hk7.at (heap_grow (w := wr.drew) (.cells #[.int .u64 (tx (cyc' j))] 31) HA.out.blk) (HA.out.v1.off HA.out.blk (by decide))
        have c2b : w7.cell? ⟨b15, 2, none⟩ = some (.slice ca k cc) := cell_of _ _ 2 _ _ hb7
        have z2b := free_of w7 b15 2 _ _ hb7
        have HA7 : Hid _ := (HA.out.keepF ((Keep.refl (fun _ => False) wr).drew)).first _ hv7 hk7 hg7 hbr
        clear hb7 hv7 hk7 hg7
        go_upto_region 6 with fail
        as_aux_lemma =>
          go_region
          clear c5 et c2 c2a c2b z2b hr7 ej HA
          generalize w7.setCell ⟨b15, 2, none⟩ (.slice (some ⟨g7, 0, none⟩) (k + 1) cap7) = w8 at *
          have hb8 := heap_lt HA7.out.blk
          have hRD : Row w4 g4 M (fun i => .int .u8 (kin i)) := by
            obtain ⟨_, hgg, _, rd⟩ := HD5.out.row (by omega)
            injection hgg with hgg; injection hgg with hgg
            subst hgg
            exact rd
          have ek : w8.cell? ⟨g4, j, none⟩ = some (.int .u8 (kin j)) := (HA7.out.kp.cell ⟨g4, j, none⟩ hg4w (by have := HB15.out; show ¬ b15 ≤ g4; omega)).trans (hRD.cell j hjM)
          have c3 : w8.cell? ⟨b15, 3, none⟩ = some (.slice ea k ec) := cell_of _ _ 3 _ _ HA7.out.blk
          obtain ⟨g9, cap9, w9, hr9, hv9, hk9, hg9, _⟩ := run_push (w8.alloc (.cells #[.int .u8 (kin j)] 96)).drew 155 96 155 1 1 _ Ybaz.underlying155 inf96 rfl Nat.one_pos (by decide) ea k ec _ ((HA7.out.v2.keep ((Keep.refl (fun _ => False) _).drew) (fun _ _ q => q)).alloc _) ⟨w8.heap.size, 0, none⟩ 1 (fun _ => .int .u8 (kin j)) (new1 w8.drew _ 96) (fun _ _ => rfl) (by omega)
          have c3a : (w8.alloc (.cells #[.int .u8 (kin j)] 96)).cell? ⟨b15, 3, none⟩ = some (.slice ea k ec) := cell_of _ _ 3 _ _ (heap_grow _ HA7.out.blk)
          have hb9 := hk9.at (heap_grow (w := w8.drew) (.cells #[.int .u8 (kin j)] 96) HA7.out.blk) (HA7.out.v2.off HA7.out.blk (by decide))
          have c3b : w9.cell? ⟨b15, 3, none⟩ = some (.slice ea k ec) := cell_of _ _ 3 _ _ hb9
          have z3b := free_of w9 b15 3 _ _ hb9
          have HA9 : Hid _ := (HA7.out.keepF ((Keep.refl (fun _ => False) w8).drew)).second _ hv9 hk9 hg9 hb8
          clear hb9 hv9 hk9 hg9 hRD
          go_upto_region 7 with fail
          go_region
          clear ek c3 c3a c3b z3b hr9 HA7
          generalize w9.setCell ⟨b15, 3, none⟩ (.slice (some ⟨g9, 0, none⟩) (k + 1) cap9) = w10 at *
          go_wp2
          go_roundg (M - (k + 1))
          case measure => omega
          case rel => exact ⟨k + 1, _, _, _, _, _, _, by omega, by go_num, rfl, HA9⟩
      · have e : k = M := by omega
        subst e
        have kW : Keep (fun x => b15 ≤ x) w wr := (HK4.out.wide (fun _ q => q.elim)).trans HA.out.kp (fun _ q => .inl q)
        have hvf : Vec wr 157 4 fb fl fc F := hfd2.keep kW (fun b hb q => by have := hbw b (hfd2.lt hb); have q2 : b15 ≤ b := q; omega)
        have hbf : wr.heap[b10]? = some (.cells #[.slice fb fl fc] 39) := kW.at hfd1 (by have := hbw b10 hb10; omega)
        have cF : wr.cell? ⟨b10, 0, none⟩ = some (.slice fb fl fc) := cell_of _ _ 0 _ _ hbf
        have a0 : wr.cell? ⟨b15, 0, none⟩ = some (.int .u8 cls) := cell_of _ _ 0 _ _ HA.out.blk
        have a1 : wr.cell? ⟨b15, 1, none⟩ = some (.pointer none) := cell_of _ _ 1 _ _ HA.out.blk
        have a2 : wr.cell? ⟨b15, 2, none⟩ = some (.slice ca k cc) := cell_of _ _ 2 _ _ HA.out.blk
        have a3 : wr.cell? ⟨b15, 3, none⟩ = some (.slice ea k ec) := cell_of _ _ 3 _ _ HA.out.blk
        obtain ⟨g7, cap7, w7, hr7, hv7, hk7, hg7, _⟩ := run_push (wr.alloc (.cells #[.int .u8 cls, .pointer none, .slice ca k cc, .slice ea k ec] 157)) 39 157 39 4 64 _ Ybaz.underlying39 inf157 rfl (by decide) (by decide) fb fl fc F (hvf.alloc _) ⟨wr.heap.size, 0, none⟩ 1 (an cls (.slice ca k cc) (.slice ea k ec)) (new4 wr cls _ _ 157) (fun j _ => by unfold an; split; rfl; split; rfl; split <;> rfl) (by omega)
        have hna : ¬ fb = some ⟨b10, 0, none⟩ := hvf.off hbf (by decide)
        have hb7 := hk7.at (heap_grow (.cells #[.int .u8 cls, .pointer none, .slice ca k cc, .slice ea k ec] 157) hbf) hna
        have cFb : w7.cell? ⟨b10, 0, none⟩ = some (.slice fb fl fc) := cell_of _ _ 0 _ _ hb7
        have zFb := free_of w7 b10 0 _ _ hb7
        obtain ⟨t1, t2, t3, _, t5⟩ := field_push (i := 0) hbf hv7 hk7 hg7 hna
        have HR : Hid (Added w (w7.setCell ⟨b10, 0, none⟩ (.slice (some ⟨g7, 0, none⟩) (fl + 1) cap7)) b10 fb fl) := by
          refine ⟨some ⟨g7, 0, none⟩, ⟨cap7, _, t1, t2, fun i hi => ?_⟩, ?_, ?_⟩
          · unfold push
            by_cases q : i = fl
            · simp only [q, if_true]; exact ⟨cls, none, ca, ea, k, cc, k, ec, hcls.1, hcls.2, rfl, rfl, rfl, rfl⟩
            · simp only [q, if_false]; exact hfd3 i (by omega)
          · rcases t5 with q | q
            · exact .inl q.symm
            · exact .inr ⟨g7, rfl, by have := kW.size; omega⟩
          · have hsz := HK4.out.size
            have := HB15.out
            refine ⟨t3.os.trans kW.os, t3.tape.trans kW.tape, t3.output.trans kW.output, Nat.le_trans kW.size t3.size, fun x hx hn => ?_⟩
            exact (t3.block x (Nat.lt_of_lt_of_le hx kW.size) hn).trans (kW.block x hx (by have := hbw x hx; omega))
        clear t1 t2 t3 t5 hb7 hv7 hk7 hg7 hvf hbf kW
        go_wp2
        go_end0
        exact ⟨rfl, HR.out⟩
end Go.Proofs.YbulkdvbsGreat

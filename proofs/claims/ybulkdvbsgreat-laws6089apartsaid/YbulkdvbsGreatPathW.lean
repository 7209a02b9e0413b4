/-
  The search for a path, walked.
-/
import Derived.Test.YbulkdvbsGreatPath
namespace Go.Proofs.YbulkdvbsGreat
open Go.RowKit

/-- An edge has been seen tt. -/
def EdgeOk (next kd comp : Nat → Int) (allow : Int) (tt : Nat) (R : Nat → Prop) (e : Nat) : Prop := fl (kd e) allow = true → (next e ≠ (tt : Int) ∧ (comp (next e).toNat = comp tt → R (next e).toNat))
/-- How the search stands; P: what has been reached and waits. -/
structure BFS (w wr : World) (S G n : Nat) (K : Int) (RE PA VI : Nat) (first : Nat → Nat) (next kd comp : Nat → Int) (allow : Int) (from_ tt : Nat) (q : Prop) (re pa vi : Nat → Int) (R : Nat → Prop) (dep : Nat → Nat) (D P : Nat → Prop) : Prop where
  sr : SR wr S G n K RE PA VI re pa vi
  fo : Found n K re pa R dep q from_
  kp : Keep (sOwn S RE PA VI) w wr
  cov : q → ∀ v, R v → D v ∨ P v
  dn : q → ∀ u, D u → ∀ e, first u ≤ e → e < first (u + 1) → EdgeOk next kd comp allow tt R e
theorem BFS.keep {w wr wr' : World} {S G n : Nat} {K : Int} {RE PA VI : Nat} {first : Nat → Nat} {next kd comp : Nat → Int} {allow : Int} {from_ tt : Nat} {q : Prop} {re pa vi : Nat → Int} {R : Nat → Prop} {dep : Nat → Nat} {D P : Nat → Prop} (h : BFS w wr S G n K RE PA VI first next kd comp allow from_ tt q re pa vi R dep D P) {F : Nat → Prop} (k : Keep F wr wr') (hF : ∀ b, F b → w.heap.size ≤ b) (hS : ∀ b, sOwn S RE PA VI b → ¬ F b) : BFS w wr' S G n K RE PA VI first next kd comp allow from_ tt q re pa vi R dep D P :=
  ⟨h.sr.keep k hS, h.fo, h.kp.trans k (fun b hb => .inr (hF b hb)), h.cov, h.dn⟩
theorem BFS.own {w wr : World} {S G n : Nat} {K : Int} {RE PA VI : Nat} {first : Nat → Nat} {next kd comp : Nat → Int} {allow : Int} {from_ tt : Nat} {q : Prop} {re pa vi : Nat → Int} {R : Nat → Prop} {dep : Nat → Nat} {D P : Nat → Prop} (h : BFS w wr S G n K RE PA VI first next kd comp allow from_ tt q re pa vi R dep D P) : ∀ b, sOwn S RE PA VI b → b < wr.heap.size := by
  obtain ⟨l1, l2, l3⟩ := h.sr.lt
  have l0 := heap_lt h.sr.blk
  rintro b (q | q | q | q) <;> subst q <;> assumption
/-- Nothing is found: what has been reached is closed. -/
def Closed (n : Nat) (first : Nat → Nat) (next kd comp : Nat → Int) (allow : Int) (from_ tt : Nat) : Prop := ∃ R : Nat → Prop, R from_ ∧ ∀ u, R u → u < n ∧ ∀ e, first u ≤ e → e < first (u + 1) → EdgeOk next kd comp allow tt R e
def PathRes (w w' : World) (S G n RE PA VI : Nat) (first : Nat → Nat) (next kd comp : Nat → Int) (allow : Int) (from_ tt : Nat) (q : Prop) (e : Ending) : Prop :=
  (∃ k re pa vi, SR w' S G n k RE PA VI re pa vi) ∧ (PathOut w w' n e ∨ (e = .returned (.tuple #[vnil, vnil]) ∧ (q → Closed n first next kd comp allow from_ tt)))

set_option maxHeartbeats 8000000 in
set_option maxRecDepth 100000 in
theorem path_any (G n E : Nat) (la : Option Addr) (lc : Nat) (ga : Option Addr) (gc FB NX KN : Nat) (ah : Value) (first : Nat → Nat) (next kd : Nat → Int) (ok : Bool) (S : Nat) (k0 : Int) (RE PA VI : Nat) (re0 pa0 vi0 : Nat → Int) (CO cc : Nat) (comp : Nat → Int) (rk : Value) (RK : Nat) (rank : Nat → Int) (from_ tt : Nat) (allow : Int) (q : Prop) (w : World)
    (hn : n ≤ 5) (hE : E ≤ 100000) (hgl : GL w G n E la lc ga gc FB NX KN ah first next kd) (ha : Ah w n ah ok) (hal : allow = 63 ∨ (ok = true ∧ 1 ≤ allow ∧ allow ≤ 62)) (hsr : SR w S G n k0 RE PA VI re0 pa0 vi0) (hO : ∀ b, gBlk G ga FB NX KN n ah b → ¬ sOwn S RE PA VI b)
    (hco : Row w CO n (fun i => .int .i32 (comp i))) (hCO : CO < w.heap.size) (hCO2 : ¬ sOwn S RE PA VI CO) (hrk : rk = vnil ∨ (rk = .slice (some ⟨RK, 0, none⟩) n n ∧ Row w RK n (fun i => .int .i32 (rank i)) ∧ RK < w.heap.size ∧ ¬ sOwn S RE PA VI RK)) (hf : from_ < n) (ht : tt < n) (hq : q → rk = vnil ∧ ∀ v, v < n → re0 v ≠ IntKind.i32.wrap (k0 + 1)) :
    Calls Ybaz.prog 139 #[.pointer (some ⟨S, 0, none⟩), .int .i64 (from_ : Int), .int .i64 (tt : Int), .int .u8 allow, .slice (some ⟨CO, 0, none⟩) n cc, rk] w fun e w' => PathRes w w' S G n RE PA VI first next kd comp allow from_ tt q e ∧ Keep (sOwn S RE PA VI) w w' := by
  have n1 : (n : Int) ≤ 5 := by omega
  have c0 : w.cell? ⟨S, 0, none⟩ = some (.pointer (some ⟨G, 0, none⟩)) := cell_of w S 0 _ _ hsr.blk
  have c1 : w.cell? ⟨S, 1, none⟩ = some (.int .i32 k0) := cell_of w S 1 _ _ hsr.blk
  have f1 := free_of w S 1 _ _ hsr.blk
  have HKT := fun _ : Unit => keepTo_same G n E la lc ga gc FB NX KN ah first next kd allow ok w hgl ha (or2 hal id (fun h => h.1))
  obtain ⟨K, HKK⟩ : ∃ K, Hid (K = IntKind.i32.wrap (k0 + 1)) := ⟨_, rfl⟩
  have hK : IntKind.i32.wrap (k0 + 1) = K := HKK.out.symm
  have HSR1 : Hid (SR (w.setCell ⟨S, 1, none⟩ (.int .i32 K)) S G n K RE PA VI re0 pa0 vi0) := by
    have kk := Keep.setCell w ⟨S, 1, none⟩ (.int .i32 K)
    obtain ⟨l1, l2, l3⟩ := hsr.lt
    obtain ⟨e1, e2, e3, e4⟩ := hsr.ne
    have := kk.size
    exact ⟨heap_set w S 1 _ _ _ hsr.blk, hsr.rr.keep (kk.block RE l1 (fun q => e1 q.symm)), hsr.rp.keep (kk.block PA l2 (fun q => e2 q.symm)), hsr.rv.keep (kk.block VI l3 (fun q => e3 q.symm)), ⟨by omega, by omega, by omega⟩, hsr.ne⟩
  have HK1 : Hid (Keep (sOwn S RE PA VI) w (w.setCell ⟨S, 1, none⟩ (.int .i32 K))) := (Keep.setCell w ⟨S, 1, none⟩ _).wide (fun b q => .inl q)
  have HGL : Hid _ := hgl
  have HA : Hid _ := ha
  have HO : Hid _ := hO
  have HCO : Hid _ := hco
  have HRK : Hid _ := hrk
  have HQ : Hid (q → rk = vnil ∧ ∀ v, v < n → re0 v ≠ K) := by rw [HKK.out]; exact hq
  have HAL : Hid _ := hal
  clear hgl ha hO hco hrk hq hsr hal
  go_enter Ybaz.func139, Ybaz.ntmps139
  go_upto_region 4 with (first
    | (go_at_call 133; refine (HKT ()).mono ?_; rintro e w2 ⟨rfl, rfl⟩))
  clear HKT hK c0 c1 f1
  generalize w.setCell ⟨S, 1, none⟩ (.int .i32 K) = w1 at *
  have c1 : w1.cell? ⟨S, 1, none⟩ = some (.int .i32 K) := cell_of w1 S 1 _ _ HSR1.out.blk
  have c2 : w1.cell? ⟨S, 2, none⟩ = some (.slice (some ⟨RE, 0, none⟩) n n) := cell_of w1 S 2 _ _ HSR1.out.blk
  have c3 : w1.cell? ⟨S, 3, none⟩ = some (.slice (some ⟨PA, 0, none⟩) n n) := cell_of w1 S 3 _ _ HSR1.out.blk
  have c4 : w1.cell? ⟨S, 4, none⟩ = some (.slice (some ⟨VI, 0, none⟩) n n) := cell_of w1 S 4 _ _ HSR1.out.blk
  have e1 := HSR1.out.rr.cell from_ hf
  have e2 := HSR1.out.rp.cell from_ hf
  have e3 := HSR1.out.rv.cell from_ hf
  have z1 := HSR1.out.rr.free from_
  have z2 := HSR1.out.rp.free from_
  have z3 := HSR1.out.rv.free from_
  obtain ⟨x1, x2, x3, x4, x5, x6⟩ := HSR1.out.ne
  have g1 : (from_ : Int) < (n : Int) := by omega
  have g2 : (from_ : Int).toNat = from_ := by omega
  obtain ⟨hs2, hk2⟩ := HSR1.out.reach from_ hf (-1) 0
  have HS2 : Hid _ := hs2
  have HK2 : Hid _ := hk2
  clear hs2 hk2
  go_region
  have HS3 : Hid _ := HS2.out.keep ((Keep.refl (fun _ => False) _).drew) (fun _ _ q => q)
  have HK3 : Hid _ := HK1.out.trans HK2.out.drew (fun b q => .inl q)
  clear HS2 HK2 c1 c2 c3 c4 e1 e2 e3 z1 z2 z3 HK1 HSR1
  generalize (((w1.setCell ⟨RE, from_, none⟩ (.int .i32 K)).setCell ⟨PA, from_, none⟩ (.int .i32 (-1))).setCell ⟨VI, from_, none⟩ (.int .u8 0)).drew = w3 at *
  clear w1
  as_aux_lemma =>
    go_wp2
    have hb4 : (w3.alloc (Obj.cells #[.int .i64 (from_ : Int)] 3)).heap[w3.heap.size]? = some (Obj.cells #[.int .i64 (from_ : Int)] 3) := heap_alloc_new _ _
    have HR4 : Hid (Row (w3.alloc (Obj.cells #[.int .i64 (from_ : Int)] 3)) w3.heap.size 1 (fun _ => .int .i64 (from_ : Int))) := ⟨fun i hi => by
      have : i = 0 := by omega
      subst this; exact cell_of _ _ 0 _ _ hb4, fun i => free_of _ _ i _ _ hb4⟩
    have HB4 : Hid (BFS w (w3.alloc (Obj.cells #[.int .i64 (from_ : Int)] 3)) S G n K RE PA VI first next kd comp allow from_ tt q _ _ _ (fun i => i = from_) (fun _ => 0) (fun _ => False) (fun v => v = from_)) :=
      BFS.keep ⟨HS3.out, Found.start n K re0 pa0 q from_ hf (fun h => (HQ.out h).2), HK3.out, fun _ v hv => .inr hv, fun _ u hu => hu.elim⟩ (Keep.alloc (fun _ => False) w3 _) (fun _ q => q.elim) (fun _ _ q => q)
    have l4 := heap_lt hb4
    have s3 := HK3.out.size
    have HOb : Hid (∀ b, sOwn S RE PA VI b → b < w3.heap.size) := by
      obtain ⟨m1, m2, m3⟩ := HS3.out.lt
      have m0 := heap_lt HS3.out.blk
      rintro b (q | q | q | q) <;> subst q <;> assumption
    clear HS3 HK3 hb4
    generalize w3.alloc (Obj.cells #[.int .i64 (from_ : Int)] 3) = w4 at *
    go_loopg [15] (2 * n + 1) (fun gk s15 wr => ∃ (a15 : Option Addr) (ll lcap lb : Nat) (lv : Nat → Nat) (re pa vi : Nat → Int) (R : Nat → Prop) (dep : Nat → Nat) (D : Nat → Prop), s15 = .slice a15 ll lcap ∧ ll ≤ 5 ∧ Hid (0 < ll → a15 = some ⟨lb, 0, none⟩ ∧ lb < wr.heap.size ∧ ¬ sOwn S RE PA VI lb ∧ w.heap.size ≤ lb) ∧ Hid (Row wr lb ll (fun i => .int .i64 (lv i : Int))) ∧ Hid (∀ i, i < ll → R (lv i)) ∧
      Hid (BFS w wr S G n K RE PA VI first next kd comp allow from_ tt q re pa vi R dep D (fun v => ∃ j, j < ll ∧ lv j = v)) ∧ Hid (2 * (n - num (fun i => re i = K) n) + (if ll = 0 then 0 else 1) ≤ gk))
    case atStart =>
      refine ⟨some ⟨w3.heap.size, 0, none⟩, 1, 1, w3.heap.size, fun _ => from_, (fun i => if i = from_ then K else re0 i), (fun i => if i = from_ then -1 else pa0 i), (fun i => if i = from_ then 0 else vi0 i), (fun i => i = from_), (fun _ => 0), (fun _ => False), rfl, by omega, (fun _ => ⟨rfl, l4, fun h => by have := HOb.out _ h; omega, s3⟩), HR4.out, (fun i hi => rfl), ⟨HB4.out.sr, HB4.out.fo, HB4.out.kp, fun hq v hv => .inr ⟨0, by omega, hv.symm⟩, HB4.out.dn⟩, ?_⟩
      show _ ≤ _
      rw [if_neg (by omega)]; omega
    case round =>
      as_aux_lemma =>
        clear HB4 HR4 l4 HOb
        clear s3
        obtain ⟨a15, ll, lcap, lb, lv, re, pa, vi, R, dep, D, rfl, hll, HL, HRL, HLR, HB, HM⟩ := hrel
        by_cases hpos : 0 < ll
        · obtain ⟨rfl, hlb, hlb2, hlb3⟩ := HL.out hpos
          have p1 : (0 : Int) < (ll : Int) := by omega
          have p2 : (ll : Int) ≤ 5 := by omega
          go_wp2
          have ownl : ∀ b, sOwn S RE PA VI b → b < wr.heap.size := HB.out.own
          have szw := HB.out.kp.size
          obtain ⟨W0, HW0⟩ : ∃ W0, Hid (wr.heap.size = W0) := ⟨_, rfl⟩
          rw [HW0.out] at ownl hlb szw
          have HOW : Hid _ := ownl
          clear ownl
          go_loopg [15, 16, 17] ll (fun gk s15 s16 s17 wr => ∃ (i : Nat) (a16 : Option Addr) (dl dc : Nat) (dv : Nat → Nat) (re' pa vi : Nat → Int) (R : Nat → Prop) (dep : Nat → Nat) (D : Nat → Prop), s15 = .slice (some ⟨lb, 0, none⟩) ll lcap ∧ s16 = .slice a16 dl dc ∧ s17 = .int .i64 (i : Int) ∧ i ≤ ll ∧ gk = ll - i ∧ Hid (Vec wr 3 1 a16 dl dc (fun j _ => .int .i64 (dv j : Int))) ∧ Hid (∀ b, a16 = some ⟨b, 0, none⟩ → W0 ≤ b) ∧ Hid (Row wr lb ll (fun i => .int .i64 (lv i : Int))) ∧ Hid (W0 ≤ wr.heap.size) ∧ Hid (∀ i, i < ll → R (lv i)) ∧ Hid (∀ j, j < dl → R (dv j)) ∧
            Hid (BFS w wr S G n K RE PA VI first next kd comp allow from_ tt q re' pa vi R dep D (fun v => (∃ j, i ≤ j ∧ j < ll ∧ lv j = v) ∨ ∃ j, j < dl ∧ dv j = v)) ∧ Hid (num (fun i => re' i = K) n = num (fun i => re i = K) n + dl))
          case atStart =>
            exact ⟨0, none, 0, 0, fun _ => 0, re, pa, vi, R, dep, D, rfl, rfl, rfl, Nat.zero_le _, rfl, Vec.nil _ _ _ _, nofun, HRL.out, Nat.le_of_eq HW0.out.symm, HLR.out, (fun j hj => absurd hj (Nat.not_lt_zero j)), ⟨HB.out.sr, HB.out.fo, HB.out.kp, fun hq v hv => or2 (HB.out.cov hq v hv) id (fun ⟨j, hj, e⟩ => .inl ⟨j, Nat.zero_le _, hj, e⟩), HB.out.dn⟩, rfl⟩
          case round =>
            as_aux_lemma =>
              clear HB HRL HLR HW0 HL
              clear dep R D pa vi
              obtain ⟨i, a16, dl, dc, dv, re', pa, vi, R, dep, D, rfl, rfl, rfl, hi, rfl, HV, HVa, HRL, HWr, HLR, HDR, HB, HN⟩ := hrel
              have hdl : dl ≤ 5 := by have := HN.out; have := num_le (fun i => re' i = K) n; omega
              by_cases hil : i < ll
              · have i1 : (i : Int) < (ll : Int) := by omega
                have i2 : (i : Int).toNat = i := by omega
                have e0 := HRL.out.cell i hil
                have hur := HLR.out i hil
                obtain ⟨u, HU⟩ : ∃ u, Hid (lv i = u) := ⟨_, rfl⟩
                rw [HU.out] at e0 hur
                have hun := (HB.out.fo.hR u hur).1
                have HG := HGL.out.keepB HB.out.kp HO.out
                have HOC := fun _ : Unit => out_any G n E la lc ga gc FB NX KN ah first next kd u wr HG hun hn hE
                clear HG
                obtain ⟨A, HA1⟩ : ∃ A, Hid (first u = A) := ⟨_, rfl⟩
                obtain ⟨B, HB1⟩ : ∃ B, Hid (first (u + 1) = B) := ⟨_, rfl⟩
                have hAB : A ≤ B := by rw [← HA1.out, ← HB1.out]; exact HGL.out.mono u hun
                have hBE : B ≤ E := by rw [← HB1.out]; exact HGL.out.top (u + 1) (by omega)
                rw [HA1.out, HB1.out] at HOC
                go_upto_region 13 with (first
                  | (go_at_call 128; refine (HOC ()).mono ?_; rintro e w5 ⟨⟨a1, k1, a2, k2, rfl, hab⟩, hw5⟩; have HAB : Hid _ := hab; have HW5 : Hid _ := hw5; clear hab hw5))
                clear HOC e0
                have hk5 : Keep (fun _ => False) wr w5 := by
                  obtain ⟨qq, h5⟩ := HW5.out
                  rw [h5]; exact (Keep.refl _ _).drewN _
                have HB5 : Hid _ := HB.out.keep hk5 (fun _ q => q.elim) (fun _ _ q => q)
                have HV5 : Hid _ := HV.out.keep hk5 (fun _ _ q => q)
                have HRL5 : Hid _ := HRL.out.keep (hk5.block lb (by have := HWr.out; omega) (fun q => q))
                have HWr5 : Hid (W0 ≤ w5.heap.size) := Nat.le_trans HWr.out hk5.size
                clear HB HV HRL HWr HW5 hk5
                go_wp2
                have HAB5 : Hid _ := HAB
                go_loopg [15, 16, 85] (B - A) (fun gk s15 s16 s85 wr => ∃ (j : Nat) (a16 : Option Addr) (dl dc : Nat) (dv : Nat → Nat) (re' pa vi : Nat → Int) (R : Nat → Prop) (dep : Nat → Nat), s15 = .slice (some ⟨lb, 0, none⟩) ll lcap ∧ s16 = .slice a16 dl dc ∧ s85 = .int .i64 (j : Int) ∧ j ≤ B - A ∧ gk = B - A - j ∧ R u ∧ Hid (Vec wr 3 1 a16 dl dc (fun j _ => .int .i64 (dv j : Int))) ∧ Hid (∀ b, a16 = some ⟨b, 0, none⟩ → W0 ≤ b) ∧ Hid (Row wr lb ll (fun i => .int .i64 (lv i : Int))) ∧ Hid (W0 ≤ wr.heap.size) ∧ Hid (∀ i, i < ll → R (lv i)) ∧ Hid (∀ j, j < dl → R (dv j)) ∧
                  Hid (BFS w wr S G n K RE PA VI first next kd comp allow from_ tt q re' pa vi R dep D (fun v => (∃ j, i ≤ j ∧ j < ll ∧ lv j = v) ∨ ∃ j, j < dl ∧ dv j = v)) ∧ Hid (q → ∀ e, A ≤ e → e < A + j → EdgeOk next kd comp allow tt R e) ∧ Hid (num (fun i => re' i = K) n = num (fun i => re i = K) n + dl))
                case atStart => exact ⟨0, a16, dl, dc, dv, re', pa, vi, R, dep, rfl, rfl, rfl, Nat.zero_le _, rfl, hur, HV5.out, HVa.out, HRL5.out, HWr5.out, HLR.out, HDR.out, HB5.out, (fun _ e h1 h2 => by omega), HN.out⟩
                case round =>
                  as_aux_lemma =>
                    clear HB5 HV5 HRL5 HWr5 HN HVa HLR HDR hur
                    clear hdl
                    clear dep R pa vi re' dv
                    obtain ⟨j, a16, dl, dc, dv, re', pa, vi, R, dep, rfl, rfl, rfl, hj, rfl, hur, HV, HVa, HRL, HWr, HLR, HDR, HB, HEd, HN⟩ := hrel
                    have hdl : dl ≤ 5 := by have := HN.out; have := num_le (fun i => re' i = K) n; omega
                    by_cases hjl : j < B - A
                    · obtain ⟨rfl, rfl⟩ := HAB.out (by omega)
                      have j1 : (j : Int) < ((B - A : Nat) : Int) := by omega
                      have j2 : (j : Int).toNat = j := by omega
                      have HG := HGL.out.keepB HB.out.kp HO.out
                      have hA := Ah.keep HA.out HB.out.kp (fun b hb => HO.out b (.inr (.inr (.inr (.inr (.inr hb))))))
                      have hnx := HGL.out.hn (A + j) (by omega)
                      have hkd := HGL.out.hk (A + j) (by omega)
                      obtain ⟨v, HVV⟩ : ∃ v : Nat, Hid (next (A + j) = (v : Int)) := ⟨(next (A + j)).toNat, by show next (A + j) = _; omega⟩
                      have hvn : v < n := by have := HVV.out; omega
                      obtain ⟨d, HD⟩ : ∃ d, Hid (kd (A + j) = d) := ⟨_, rfl⟩
                      rw [HD.out] at hkd
                      have e1 : wr.cell? ⟨NX, A + j, none⟩ = some (.int .i32 (v : Int)) := by rw [← HVV.out]; exact HG.rn.cell (A + j) (by omega)
                      have e2 : wr.cell? ⟨KN, A + j, none⟩ = some (.int .u8 d) := by rw [← HD.out]; exact HG.rk.cell (A + j) (by omega)
                      have HFC := fun _ : Unit => follows_any G n E la lc ga gc FB NX KN ah first next kd v d allow ok wr HG hA hvn hkd HAL.out
                      have g0 : wr.cell? ⟨G, 0, none⟩ = some (.int .i64 (n : Int)) := cell_of wr G 0 _ _ HG.blk
                      clear HG hA hnx
                      have v1 : (v : Int) < (n : Int) := by omega
                      have v2 : (v : Int).toNat = v := by omega
                      have v3 : IntKind.i64.wrap (v : Int) = (v : Int) := by rw [IntKind.wrap_i64]; omega
                      cases hfl : fl d allow with
                      | false =>
                        rw [hfl] at HFC
                        go_wp2_with (first
                          | (go_at_call 135; refine (HFC ()).mono ?_; rintro e w6 ⟨rfl, rfl⟩))
                        go_roundg (B - A - (j + 1))
                        case measure => omega
                        case rel => exact ⟨j + 1, a16, dl, dc, dv, re', pa, vi, R, dep, rfl, rfl, by go_num, by omega, rfl, hur, HV, HVa, HRL, HWr, HLR, HDR, HB, (fun hq e h1 h2 => by
                          by_cases he : e = A + j
                          · subst he; intro h; rw [HD.out, hfl] at h; cases h
                          · exact HEd.out hq e h1 (by omega)), HN⟩
                      | true =>
                        rw [hfl] at HFC
                        go_upto_region 17 with (first
                          | (go_at_call 135; refine (HFC ()).mono ?_; rintro e w6 ⟨rfl, rfl⟩))
                        clear HFC
                        go_quiet (fail)
                        have kdr : Keep (fun _ => False) wr (wr.drewN nq) := (Keep.refl _ _).drewN _
                        have HB6 : Hid _ := HB.out.keep kdr (fun _ q => q.elim) (fun _ _ q => q)
                        have HV6 : Hid _ := HV.out.keep kdr (fun _ _ q => q)
                        have HRL6 : Hid _ := HRL.out.keep (kdr.block lb (by have := HWr.out; omega) (fun q => q))
                        have HWr6 : Hid (W0 ≤ (wr.drewN nq).heap.size) := HWr.out
                        have g06 : (wr.drewN nq).cell? ⟨G, 0, none⟩ = some (.int .i64 (n : Int)) := g0
                        clear HB HV HRL HWr e1 e2 g0 kdr
                        generalize wr.drewN nq = w6 at *
                        have un : ¬ (n : Int) ≤ (u : Int) := by omega
                        go_upto_region 19 with fail
                        go_cut [85, 117] from 85 to 211 (fun t s wx => w6 = wx ∧ t = .int .i64 (j : Int) ∧ s = .bool false)
                        case first =>
                          as_aux_lemma =>
                            by_cases hd0 : d = 0
                            · have q1 : (d == 0) = true := by simpa using hd0
                              clear hd0
                              go_wp2
                              go_meet
                              exact ⟨rfl, rfl, rfl⟩
                            · have q1 : (d == 0) = false := by simpa using hd0
                              clear hd0
                              go_wp2
                              go_meet
                              exact ⟨rfl, rfl, rfl⟩
                        case rest =>
                          obtain ⟨rfl, rfl, rfl⟩ := hcut
                          clear un
                          obtain ⟨cr, HCR⟩ : ∃ cr, Hid (bits BinOp.and IntKind.u8 d allow = cr) := ⟨_, rfl⟩
                          rw [HCR.out]
                          by_cases hvt : v = tt
                          · have hvt2 : ((v : Int) == (tt : Int)) = true := by simp; omega
                            have HWB := fun _ : Unit => walkBack_any S G n K RE PA VI re' pa vi R dep u cr w6 hn HB6.out.sr g06 (Nat.lt_of_lt_of_le (heap_lt HGL.out.blk) HB6.out.kp.size) (fun x hx => by
                              obtain ⟨h1, _, h2, h3⟩ := HB6.out.fo.hR x hx
                              have := num_le (fun i => re' i = K) n
                              exact ⟨h1, by omega, h3⟩) hur
                            clear hvt g06
                            as_aux_lemma =>
                              go_wp2_with (first
                                | (go_at_call 195; refine (HWB ()).mono ?_; rintro e w7 ⟨hp, hk7⟩; have HK7 : Hid _ := hk7; obtain ⟨m, A', B', c1', c2', f', d', hm1, hm6, rfl, hrest⟩ := hp; have HREST : Hid _ := hrest; clear hk7 hrest))
                              go_ret2
                              have s6 := HB6.out.kp.size
                              obtain ⟨r1, r2, r3, r4, r5, r6, r7⟩ := HREST.out
                              exact ⟨⟨⟨_, _, _, _, HB6.out.sr.keep HK7.out (fun _ _ q => q)⟩, .inl ⟨m, A', B', c1', c2', f', d', hm1, hm6, rfl, r1, r2, r3, by omega, by omega, r6, r7⟩⟩, HB6.out.kp.trans HK7.out (fun _ q => q.elim)⟩
                          · have hvt2 : ((v : Int) == (tt : Int)) = false := by simp; omega
                            have hvt3 : (v : Int) ≠ (tt : Int) := by omega
                            go_upto_region 23 with fail
                            go_cut [85, 171] from 85 to 211 (fun t s wx => (∃ nq, wx = w6.drewN nq) ∧ t = .int .i64 (j : Int) ∧ ∃ bb, s = .bool bb ∧ (bb = false → re' v ≠ K) ∧ (bb = true → q → (re' v = K ∨ comp v ≠ comp tt)))
                            case first =>
                              as_aux_lemma =>
                                have c1 : w6.cell? ⟨S, 1, none⟩ = some (.int .i32 K) := cell_of w6 S 1 _ _ HB6.out.sr.blk
                                have c2 : w6.cell? ⟨S, 2, none⟩ = some (.slice (some ⟨RE, 0, none⟩) n n) := cell_of w6 S 2 _ _ HB6.out.sr.blk
                                have e1 := HB6.out.sr.rr.cell v hvn
                                have t1 : (tt : Int) < (n : Int) := by omega
                                have t2 : (tt : Int).toNat = tt := by omega
                                have e2 : w6.cell? ⟨CO, v, none⟩ = some (.int .i32 (comp v)) := (HB6.out.kp.cell ⟨CO, v, none⟩ hCO hCO2).trans (HCO.out.cell v hvn)
                                have e3 : w6.cell? ⟨CO, tt, none⟩ = some (.int .i32 (comp tt)) := (HB6.out.kp.cell ⟨CO, tt, none⟩ hCO hCO2).trans (HCO.out.cell tt ht)
                                clear hvt3 hvt
                                by_cases hre : re' v = K
                                · have HRE : Hid _ := hre
                                  have q1 : (re' v == K) = true := by simpa using hre
                                  clear hre
                                  go_quiet (fail)
                                  go_wp2
                                  go_meet
                                  exact ⟨⟨_, rfl⟩, rfl, true, rfl, nofun, fun _ _ => .inl HRE.out⟩
                                · have HRE : Hid _ := hre
                                  have q1 : (re' v == K) = false := by simpa using hre
                                  clear hre
                                  by_cases hcv : comp v = comp tt
                                  · have q2 : (comp v != comp tt) = false := by simpa using hcv
                                    clear hcv
                                    rcases HRK.out with hrn | ⟨rfl, hrr, hRKl, hRK2⟩
                                    · have hrn2 : rk = .slice none 0 0 := hrn
                                      subst hrn2
                                      clear hrn
                                      go_quiet (fail)
                                      go_wp2
                                      go_meet
                                      exact ⟨⟨_, rfl⟩, rfl, false, rfl, fun _ => HRE.out, nofun⟩
                                    · have er1 : w6.cell? ⟨RK, v, none⟩ = some (.int .i32 (rank v)) := (HB6.out.kp.cell ⟨RK, v, none⟩ hRKl hRK2).trans (hrr.cell v hvn)
                                      have er2 : w6.cell? ⟨RK, tt, none⟩ = some (.int .i32 (rank tt)) := (HB6.out.kp.cell ⟨RK, tt, none⟩ hRKl hRK2).trans (hrr.cell tt ht)
                                      clear hrr
                                      go_quiet (fail)
                                      go_wp2
                                      go_meet
                                      exact ⟨⟨_, rfl⟩, rfl, _, rfl, fun _ => HRE.out, fun _ hq => by have := (HQ.out hq).1; unfold vnil at this; injection this with h1 h2; cases h1⟩
                                  · have HCV : Hid _ := hcv
                                    have q2 : (comp v != comp tt) = true := by simpa using hcv
                                    clear hcv
                                    go_quiet (fail)
                                    go_wp2
                                    go_meet
                                    exact ⟨⟨_, rfl⟩, rfl, true, rfl, nofun, fun _ _ => .inr HCV.out⟩
                            case rest =>
                              obtain ⟨⟨nq, hwc⟩, rfl, bb, rfl, hbb1, hbb2⟩ := hcut
                              have HBB1 : Hid _ := hbb1
                              have HBB2 : Hid _ := hbb2
                              have kdr : Keep (fun _ => False) w6 wc := by rw [hwc]; exact (Keep.refl _ _).drewN _
                              have HB8 : Hid _ := HB6.out.keep kdr (fun _ q => q.elim) (fun _ _ q => q)
                              have HV8 : Hid _ := HV6.out.keep kdr (fun _ _ q => q)
                              have HRL8 : Hid _ := HRL6.out.keep (kdr.block lb (by have := HWr6.out; omega) (fun q => q))
                              have HWr8 : Hid (W0 ≤ wc.heap.size) := Nat.le_trans HWr6.out kdr.size
                              clear HB6 HV6 HRL6 HWr6 g06 kdr hbb1 hbb2 hwc
                              cases bb with
                              | true =>
                                go_wp2
                                go_roundg (B - A - (j + 1))
                                case measure => omega
                                case rel => exact ⟨j + 1, a16, dl, dc, dv, re', pa, vi, R, dep, rfl, rfl, by go_num, by omega, rfl, hur, HV8, HVa, HRL8, HWr8, HLR, HDR, HB8, (fun hq e h1 h2 => by
                                  by_cases he : e = A + j
                                  · subst he
                                    intro _
                                    have hv : (next (A + j)).toNat = v := by rw [HVV.out]; omega
                                    rw [hv]
                                    refine ⟨by rw [HVV.out]; exact hvt3, fun hc => ?_⟩
                                    rcases HBB2.out (by simp) hq with h | h
                                    · exact HB8.out.fo.fr hq v hvn h
                                    · exact absurd hc h
                                  · exact HEd.out hq e h1 (by omega)), HN⟩
                              | false =>
                                have hne := HBB1.out rfl
                                have HNE : Hid _ := hne
                                clear hne
                                go_upto_region 24 with fail
                                have c1 : wc.cell? ⟨S, 1, none⟩ = some (.int .i32 K) := cell_of wc S 1 _ _ HB8.out.sr.blk
                                have c2 : wc.cell? ⟨S, 2, none⟩ = some (.slice (some ⟨RE, 0, none⟩) n n) := cell_of wc S 2 _ _ HB8.out.sr.blk
                                have c3 : wc.cell? ⟨S, 3, none⟩ = some (.slice (some ⟨PA, 0, none⟩) n n) := cell_of wc S 3 _ _ HB8.out.sr.blk
                                have c4 : wc.cell? ⟨S, 4, none⟩ = some (.slice (some ⟨VI, 0, none⟩) n n) := cell_of wc S 4 _ _ HB8.out.sr.blk
                                have e1 := HB8.out.sr.rr.cell v hvn
                                have e2 := HB8.out.sr.rp.cell v hvn
                                have e3 := HB8.out.sr.rv.cell v hvn
                                have z1 := HB8.out.sr.rr.free v
                                have z2 := HB8.out.sr.rp.free v
                                have z3 := HB8.out.sr.rv.free v
                                obtain ⟨x1, x2, x3, x4, x5, x6⟩ := HB8.out.sr.ne
                                have uw : IntKind.i32.wrap (u : Int) = (u : Int) := by unfold IntKind.wrap; simp [IntKind.bits, IntKind.signed]; omega
                                obtain ⟨hs9, hk9⟩ := HB8.out.sr.reach v hvn (u : Int) cr
                                obtain ⟨hf9, hn9⟩ := HB8.out.fo.more u v hur hvn HNE.out
                                have HF9 : Hid _ := hf9
                                have HN9 : Hid _ := hn9
                                clear hf9 hn9
                                have HS9 : Hid _ := hs9.keep ((Keep.refl (fun _ => False) _).drew) (fun _ _ q => q)
                                have HK9 : Hid _ := hk9.drew
                                clear hs9 hk9
                                as_aux_lemma =>
                                  go_region
                                  generalize (((wc.setCell ⟨RE, v, none⟩ (.int .i32 K)).setCell ⟨PA, v, none⟩ (.int .i32 (u : Int))).setCell ⟨VI, v, none⟩ (.int .u8 cr)).drew = w9 at *
                                  clear c1 c2 c3 c4 e1 e2 e3 z1 z2 z3
                                  have HK9w : Hid (Keep (sOwn S RE PA VI) w w9) := HB8.out.kp.trans HK9.out (fun _ q => .inl q)
                                  have g0 : w9.cell? ⟨G, 0, none⟩ = some (.int .i64 (n : Int)) := cell_of w9 G 0 _ _ (HGL.out.keepB HK9w.out HO.out).blk
                                  have HV9 : Hid _ := HV8.out.keep HK9.out (fun b hb q => by have := HVa.out b hb; have := HOW.out b q; omega)
                                  have hWl := HWr8.out
                                  have HRL9 : Hid _ := HRL8.out.keep (HK9.out.block lb (by omega) hlb2)
                                  have s9 := HK9.out.size
                                  have hv1 := HV9.out.alloc (Obj.cells #[.int .i64 (v : Int)] 3)
                                  have hm8 : dl ≤ 100000000 := by omega
                                  go_wp2_with (first
                                    | (at_builtin; refine wpList_push (w9.alloc (Obj.cells #[.int .i64 (v : Int)] 3)) rfl _ _ 62 rfl 3 1 8 _ Ybaz.underlying62 inf3 rfl Nat.one_pos (by decide) a16 dl dc _ rfl hv1 ⟨w9.heap.size, 0, none⟩ 1 rfl (fun _ => .int .i64 (v : Int)) (new1 w9 _ 3) (fun _ _ => rfl) hm8 ?_; intro g3 cap3 w3 hv3 hk3 hg3 hl3; clear hv1))
                                  have HK3 : Hid (Keep (fun b => a16 = some ⟨b, 0, none⟩) w9 w3) := (Keep.alloc _ w9 _).trans hk3 (fun _ q => .inl q)
                                  have hg3W : W0 ≤ g3 := by
                                    rcases hg3 with h | h
                                    · exact HVa.out _ h
                                    · simp at h; omega
                                  go_roundg (B - A - (j + 1))
                                  case measure => omega
                                  case rel =>
                                    refine ⟨j + 1, some ⟨g3, 0, none⟩, dl + 1, cap3, fun i => if i = dl then v else dv i, _, _, _, (fun i => i = v ∨ R i), _, rfl, rfl, by go_num, by omega, rfl, .inr hur, hv3.congr Nat.one_pos (fun i c _ _ => by unfold push; by_cases e : i = dl <;> simp only [e, if_true, if_false]), (fun b hb => by injection hb with hb; injection hb with hb; omega), HRL9.out.keep (HK3.out.block lb (by omega) (fun h => by have := HVa.out lb h; omega)), Nat.le_trans (by omega) HK3.out.size, (fun i hi => .inr (HLR.out i hi)), (fun jj hjj => ?_),
                                      ⟨HS9.out.keep HK3.out (fun b hb h => by have := HVa.out b h; have := HOW.out b hb; omega), HF9.out, HK9w.out.trans HK3.out (fun b h => .inr (by have := HVa.out b h; omega)), (fun hq x hx => ?_), (fun hq x hx e h1 h2 => ?_)⟩, (fun hq e h1 h2 => ?_), ?_⟩
                                    · by_cases h : jj = dl
                                      · exact .inl (by show (if jj = dl then v else dv jj) = v; rw [if_pos h])
                                      · exact .inr (by show R (if jj = dl then v else dv jj); rw [if_neg h]; exact HDR.out jj (by omega))
                                    · rcases hx with rfl | hx
                                      · exact .inr (.inr ⟨dl, by omega, if_pos rfl⟩)
                                      · rcases HB8.out.cov hq x hx with h | h | ⟨jj, h1, h2⟩
                                        · exact .inl h
                                        · exact .inr (.inl h)
                                        · exact .inr (.inr ⟨jj, by omega, by show (if jj = dl then v else dv jj) = x; rw [if_neg (show ¬ jj = dl by omega)]; exact h2⟩)
                                    · intro hfl2
                                      have := HB8.out.dn hq x hx e h1 h2 hfl2
                                      exact ⟨this.1, fun hc => .inr (this.2 hc)⟩
                                    · by_cases he : e = A + j
                                      · subst he
                                        intro _
                                        have hv : (next (A + j)).toNat = v := by rw [HVV.out]; omega
                                        rw [hv]
                                        exact ⟨by rw [HVV.out]; exact hvt3, fun _ => .inl rfl⟩
                                      · intro hfl2
                                        have := HEd.out hq e h1 (by omega) hfl2
                                        exact ⟨this.1, fun hc => .inr (this.2 hc)⟩
                                    · have h1 := HN9.out
                                      have h2 := HN.out
                                      show num (fun i => (if i = v then K else re' i) = K) n = _
                                      omega
                    · have e : j = B - A := by omega
                      subst e
                      go_wp2
                      go_roundg (ll - (i + 1))
                      case measure => omega
                      case rel => exact ⟨i + 1, a16, dl, dc, dv, re', pa, vi, R, dep, (fun x => x = u ∨ D x), rfl, rfl, by go_num, by omega, rfl, HV, HVa, HRL, HWr, HLR, HDR, ⟨HB.out.sr, HB.out.fo, HB.out.kp, (fun hq v hv => by
                        rcases HB.out.cov hq v hv with h | ⟨j, h1, h2, h3⟩ | h
                        · exact .inl (.inr h)
                        · by_cases e : j = i
                          · subst e; exact .inl (.inl (h3.symm.trans HU.out))
                          · exact .inr (.inl ⟨j, by omega, h2, h3⟩)
                        · exact .inr (.inr h)), (fun hq x hx e h1 h2 => by
                        rcases hx with rfl | hx
                        · rw [HA1.out] at h1; rw [HB1.out] at h2
                          exact HEd.out hq e h1 (by omega)
                        · exact HB.out.dn hq x hx e h1 h2)⟩, HN⟩
              · have e : ll = i := by omega
                subst e
                go_wp2
                go_roundg (2 * (n - num (fun i => re' i = K) n) + (if dl = 0 then 0 else 1))
                case measure =>
                  have h1 := HM.out
                  have h2 := HN.out
                  have h3 := num_le (fun i => re' i = K) n
                  rw [if_neg (by omega)] at h1
                  split <;> omega
                case rel =>
                  by_cases hd : 0 < dl
                  · obtain ⟨g, rfl, hg, rg⟩ := HV.out.row hd
                    have hW := HVa.out g rfl
                    exact ⟨some ⟨g, 0, none⟩, dl, dc, g, dv, re', pa, vi, R, dep, D, rfl, hdl, (fun _ => ⟨rfl, hg, fun h => by have := HOW.out g h; omega, by omega⟩), rg, HDR.out, ⟨HB.out.sr, HB.out.fo, HB.out.kp, fun hq v hv => or2 (HB.out.cov hq v hv) id (fun h => by
                      rcases h with ⟨j, h1, h2, _⟩ | h
                      · omega
                      · exact h), HB.out.dn⟩, Nat.le_refl _⟩
                  · have e : dl = 0 := by omega
                    subst e
                    exact ⟨a16, 0, dc, lb, dv, re', pa, vi, R, dep, D, rfl, hdl, (fun h => by omega), ⟨fun i hi => by omega, fun i => (HRL.out.free i)⟩, HDR.out, ⟨HB.out.sr, HB.out.fo, HB.out.kp, fun hq v hv => or2 (HB.out.cov hq v hv) id (fun h => by
                      rcases h with ⟨j, h1, h2, _⟩ | h
                      · omega
                      · exact h), HB.out.dn⟩, Nat.le_refl _⟩
        · have e : ll = 0 := by omega
          subst e
          go_wp2
          go_ret2
          refine ⟨⟨⟨_, _, _, _, HB.out.sr⟩, .inr ⟨rfl, fun hq => ⟨R, HB.out.fo.fm, fun u hu => ⟨(HB.out.fo.hR u hu).1, ?_⟩⟩⟩⟩, HB.out.kp⟩
          rcases HB.out.cov hq u hu with h | ⟨j, hj, _⟩
          · exact HB.out.dn hq u h
          · omega
end Go.Proofs.YbulkdvbsGreat

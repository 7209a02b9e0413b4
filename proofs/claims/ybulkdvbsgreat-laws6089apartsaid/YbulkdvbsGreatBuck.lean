/-
  bucketed, walked.
-/
import Derived.Test.YbulkdvbsGreatAdd
namespace Go.Proofs.YbulkdvbsGreat
open Go.RowKit
attribute [local go_sem ↓] exec_make95

/-- Block b is n cells of int32. -/
def CT (w : World) (b n : Nat) : Prop := ∃ cur : Array Value, w.heap[b]? = some (.cells cur 21) ∧ cur.size = n
theorem CT.keep {w w' : World} {b n : Nat} (h : CT w b n) (e : w'.heap[b]? = w.heap[b]?) : CT w' b n := by obtain ⟨c, h1, h2⟩ := h; exact ⟨c, e.trans h1, h2⟩
theorem CT.set {w : World} {b n : Nat} (h : CT w b n) (i : Nat) (v : Value) : CT (w.setCell ⟨b, i, none⟩ v) b n := by
  obtain ⟨c, h1, h2⟩ := h
  exact ⟨_, heap_set w b i v c 21 h1, by simpa using h2⟩
/-- Behind bucketed: N numbers, each at least 0 and below L, and where the buckets start. -/
def BuckOut (w w' : World) (N bu : Nat) (L : Int) (e : Ending) : Prop := ∃ (SO ST : Nat) (so : Nat → Int) (st : Nat → Nat), e = .returned (.tuple #[.slice (some ⟨SO, 0, none⟩) N N, .slice (some ⟨ST, 0, none⟩) (bu + 1) (bu + 1)]) ∧ Row w' SO N (fun i => .int .i32 (so i)) ∧ Row w' ST (bu + 1) (fun i => .int .i32 (st i : Int)) ∧ (∀ i, i < N → 0 ≤ so i ∧ so i < L) ∧ (∀ b, b < bu → st b ≤ st (b + 1)) ∧ (∀ b, b ≤ bu → st b ≤ N) ∧ w.heap.size ≤ SO ∧ w.heap.size ≤ ST ∧ SO < w'.heap.size ∧ ST < w'.heap.size ∧ CT w' SO N

set_option maxHeartbeats 8000000 in
set_option maxRecDepth 100000 in
theorem bucketed_any (items : Value) (N bu : Nat) (it : Nat → Int) (bk : Nat → Nat) (bf : Nat) (caps : Array Value) (L : Int) (w : World) (hcf : ∀ args W, (callFunc bf args).run Ybaz.prog W = .ok (.enter bf args) W) (hN : N ≤ 60000) (hbu : bu ≤ 100) (hit : Src1 w items N (fun i => .int .i32 (it i))) (hbk : ∀ i, i < N → bk i < bu)
    (hB : ∀ W, Keep (fun _ => False) w W → ∀ i, i < N → Calls Ybaz.prog bf (#[.int .i32 (it i)] ++ caps) W fun e w' => e = .returned (.int .i64 (bk i : Int)) ∧ Keep (fun _ => False) W w') (hL : 0 < L) (hiL : ∀ i, i < N → 0 ≤ it i ∧ it i < L) :
    Calls Ybaz.prog 57 #[items, .int .i64 (bu : Int), .func (.func bf) #[] caps] w fun e w' => BuckOut w w' N bu L e ∧ Keep (fun _ => False) w w' := by
  have bu1 : (bu : Int) ≤ 100 := by omega
  have r1 : ∀ W, (opMk 95 (.int .i64 ((bu : Int) + 1)) (.int .i64 ((bu : Int) + 1))).run Ybaz.prog W = .ok (.value (.slice (some ⟨W.heap.size, 0, none⟩) (bu + 1) (bu + 1))) (W.alloc (.cells (mc (.int .i32 0) 1 (bu + 1)) 21)) := fun W => run_mkv 95 21 (.int .i32 0) 1 4 Ybaz.underlying95 inf21 (by omega) W (bu + 1) (by omega)
  have r2 := fun W => run_mkv 95 21 (.int .i32 0) 1 4 Ybaz.underlying95 inf21 (by omega) W N (by omega)
  have hb1 : (w.alloc (.cells (mc (.int .i32 0) 1 (bu + 1)) 21)).heap[w.heap.size]? = some (.cells (mc (.int .i32 0) 1 (bu + 1)) 21) := heap_alloc_new _ _
  have HR1 : Hid (Row (w.alloc (.cells (mc (.int .i32 0) 1 (bu + 1)) 21)) w.heap.size (bu + 1) (fun _ => .int .i32 0)) := Row.made1 _ _ _ _ 21 rfl hb1
  have HK1 : Hid (Keep (fun _ => False) w (w.alloc (.cells (mc (.int .i32 0) 1 (bu + 1)) 21))) := Keep.alloc _ w _
  have l1 := heap_lt hb1
  obtain ⟨ia, ic, rfl⟩ : ∃ a c, items = .slice a N c := by
    rcases hit with ⟨rfl, rfl⟩ | ⟨B, o, c, rfl, _⟩
    · exact ⟨none, 0, rfl⟩
    · exact ⟨_, c, rfl⟩
  have HIT : Hid (0 < N → ∃ B o, ia = some ⟨B, o, none⟩ ∧ B < w.heap.size ∧ ∀ i, i < N → w.cell? ⟨B, o + i, none⟩ = some (.int .i32 (it i))) := by
    intro h0
    rcases hit with ⟨_, q⟩ | ⟨B, o, c, q, h⟩
    · omega
    · injection q with q
      refine ⟨B, o, q, ?_, h⟩
      by_cases e : B < w.heap.size
      · exact e
      · have := h 0 h0
        have e : w.heap[B]? = none := Array.getElem?_eq_none (by omega)
        simp [World.cell?, e] at this
  have HB : Hid _ := hB
  have HBK : Hid _ := hbk
  have HIL : Hid _ := hiL
  clear hb1 hit hB hbk hiL
  obtain ⟨src, HSRC⟩ : ∃ s : Nat → Int, Hid (s = fun i => (bk i : Int)) := ⟨_, rfl⟩
  go_enter Ybaz.func57, Ybaz.ntmps57
  go_wp2
  clear r1
  generalize w.alloc (.cells (mc (.int .i32 0) 1 (bu + 1)) 21) = w1 at *
  obtain ⟨ST, HST⟩ : ∃ b, Hid (b = w.heap.size) := ⟨_, rfl⟩
  rw [← HST.out] at HR1 l1 ⊢
  go_loopg [20] N (fun gk s wr => ∃ k : Nat, k ≤ N ∧ s = .int .i64 (k : Int) ∧ gk = N - k ∧ Hid (Row wr ST (bu + 1) (fun i => .int .i32 (if i = 0 then 0 else (cnt src (i - 1) k : Int)))) ∧ Hid (Keep (fun b => b = ST) w1 wr))
  case atStart => exact ⟨0, Nat.zero_le _, rfl, rfl, HR1.out.congr (fun i _ => by simp [cnt]), Keep.refl _ _⟩
  case round =>
    clear HR1
    obtain ⟨k, hk, rfl, rfl, HR, HK⟩ := hrel
    have hKw : Keep (fun _ => False) w wr := HK1.out.trans HK.out (fun b q => .inr (by have := HST.out; omega))
    by_cases hlt : k < N
    · obtain ⟨B, o, rfl, hBw, hcell⟩ := HIT.out (by omega)
      have k1 : (k : Int) < (N : Int) := by omega
      have k2 : (k : Int).toNat = k := by omega
      have ei : wr.cell? ⟨B, o + k, none⟩ = some (.int .i32 (it k)) := (hKw.cell ⟨B, o + k, none⟩ hBw id).trans (hcell k hlt)
      have HC := fun _ : Unit => HB.out wr hKw k hlt
      have hbl := HBK.out k hlt
      obtain ⟨s, hs⟩ : ∃ s, Hid (s = bk k) := ⟨_, rfl⟩
      rw [← hs.out] at HC hbl
      have hsk : Hid (src k = (s : Int)) := by rw [HSRC.out, hs.out]; rfl
      have q2 : ((s : Int) + 1).toNat = s + 1 := by omega
      have q3 : (s : Int) + 1 < (bu : Int) + 1 := by omega
      have q4 : (0 : Int) ≤ (s : Int) + 1 := by omega
      obtain ⟨C, hC⟩ : ∃ C, Hid (C = cnt src s k) := ⟨_, rfl⟩
      have hC2 : C ≤ k := by rw [hC.out]; exact cnt_le src s k
      have q5 : IntKind.i32.wrap ((C : Int) + 1) = (C : Int) + 1 := by unfold IntKind.wrap; simp [IntKind.bits, IntKind.signed]; omega
      have HKw : Hid _ := hKw
      clear hKw hcell
      go_wp2_with (first
        | (refine (HC ()).mono ?_; clear HC; rintro e w3 ⟨rfl, hk3⟩
           have HR3 : Hid _ := HR.out.keep (hk3.block ST (Nat.lt_of_lt_of_le l1 HK.out.size) id)
           have HK3 : Hid (Keep (fun b => b = ST) w1 w3) := HK.out.trans hk3 (fun _ q => q.elim)
           have ef : w3.cell? ⟨ST, s + 1, none⟩ = some (.int .i32 (C : Int)) := (by have := HR3.out.cell (s + 1) (by omega); rw [this, hC.out]; simp)
           have ff := HR3.out.free (s + 1)
           clear HR HK hk3))
      have HR4 : Hid (Row (w3.setCell ⟨ST, s + 1, none⟩ (.int .i32 ((C : Int) + 1))) ST (bu + 1) (fun i => .int .i32 (if i = 0 then 0 else (cnt src (i - 1) (k + 1) : Int)))) := (HR3.out.set (s + 1) (.int .i32 ((C : Int) + 1)) (by omega)).congr (fun i _ => by
        by_cases e : i = s + 1
        · subst e; simp [cnt, hsk.out, hC.out]
        · by_cases e0 : i = 0
          · simp [e0]
          · have h2 : ¬ src k = ((i - 1 : Nat) : Int) := fun q => by have := hsk.out; omega
            simp only [e, e0, if_false, cnt, h2, Nat.add_zero])
      have HK4 : Hid (Keep (fun b => b = ST) w1 (w3.setCell ⟨ST, s + 1, none⟩ (.int .i32 ((C : Int) + 1)))) := HK3.out.trans (Keep.setCell w3 ⟨ST, s + 1, none⟩ _) (fun _ h => .inl h)
      go_roundg (N - (k + 1))
      case measure => omega
      case rel => exact ⟨k + 1, by omega, by go_num, rfl, HR4, HK4⟩
    · have e : N = k := by omega
      subst e
      clear hlt hk hKw
      go_wp2
      go_loopg [35] bu (fun gk s w2 => ∃ u : Nat, u ≤ bu ∧ s = .int .i64 (u : Int) ∧ gk = bu - u ∧ Hid (Row w2 ST (bu + 1) (fun i => .int .i32 (if i ≤ u then (pre src N i : Int) else (cnt src (i - 1) N : Int)))) ∧ Hid (Keep (fun b => b = ST) w1 w2))
      case atStart => exact ⟨0, Nat.zero_le _, rfl, rfl, HR.out.congr (fun i _ => by
        by_cases e0 : i = 0
        · simp [e0, pre]
        · simp [e0]), HK⟩
      case round =>
        clear HR HK
        obtain ⟨u, hu, rfl, rfl, HR, HK⟩ := hrel
        by_cases hlt : u < bu
        · have u1 : (u : Int) < (bu : Int) := by omega
          have u2 : (u : Int).toNat = u := by omega
          have u3 : ((u : Int) + 1).toNat = u + 1 := by omega
          have u4 : (u : Int) + 1 < (bu : Int) + 1 := by omega
          have u5 : (0 : Int) ≤ (u : Int) + 1 := by omega
          have u6 : (u : Int) < (bu : Int) + 1 := by omega
          have uw : IntKind.i64.wrap ((u : Int) + 1) = (u : Int) + 1 := by rw [IntKind.wrap_i64]; omega
          obtain ⟨A, hA⟩ : ∃ A, Hid (A = pre src N u) := ⟨_, rfl⟩
          obtain ⟨C, hC⟩ : ∃ C, Hid (C = cnt src u N) := ⟨_, rfl⟩
          have e0 : wr.cell? ⟨ST, u, none⟩ = some (.int .i32 (A : Int)) := by have := HR.out.cell u (by omega); rw [this, hA.out]; simp
          have e1 : wr.cell? ⟨ST, u + 1, none⟩ = some (.int .i32 (C : Int)) := by have := HR.out.cell (u + 1) (by omega); rw [this, hC.out]; simp [show ¬ u + 1 ≤ u by omega]
          have f1 := HR.out.free (u + 1)
          have hAC : A + C ≤ N := by
            have := pre_le src (u + 1) N
            have e : pre src N (u + 1) = pre src N u + cnt src u N := rfl
            rw [hA.out, hC.out]; omega
          have qw : IntKind.i32.wrap ((C : Int) + (A : Int)) = (C : Int) + (A : Int) := by unfold IntKind.wrap; simp [IntKind.bits, IntKind.signed]; omega
          have HR2 : Hid (Row (wr.setCell ⟨ST, u + 1, none⟩ (.int .i32 ((C : Int) + (A : Int)))).drew ST (bu + 1) (fun i => .int .i32 (if i ≤ u + 1 then (pre src N i : Int) else (cnt src (i - 1) N : Int)))) := ((HR.out.set (u + 1) (.int .i32 ((C : Int) + (A : Int))) (by omega)).congr (fun i _ => by
            by_cases e : i = u + 1
            · subst e
              have e2 : pre src N (u + 1) = pre src N u + cnt src u N := rfl
              simp only [if_true, Nat.le_refl]
              rw [e2, hA.out, hC.out]; congr 1; omega
            · by_cases e3 : i ≤ u
              · simp only [e, if_false, e3, if_true, show i ≤ u + 1 by omega]
              · simp only [e, if_false, e3, show ¬ i ≤ u + 1 by omega])).keep rfl
          have HK2 : Hid (Keep (fun b => b = ST) w1 (wr.setCell ⟨ST, u + 1, none⟩ (.int .i32 ((C : Int) + (A : Int)))).drew) := (HK.out.trans (Keep.setCell wr ⟨ST, u + 1, none⟩ _) (fun _ h => .inl h)).drew
          clear HR HK
          go_upto_region 10 with fail
          go_region
          clear e0 e1 f1
          generalize (wr.setCell ⟨ST, u + 1, none⟩ (.int .i32 ((C : Int) + (A : Int)))).drew = w3 at *
          go_wp2
          go_roundg (bu - (u + 1))
          case measure => omega
          case rel => exact ⟨u + 1, by omega, by go_num, rfl, HR2, HK2⟩
        · have e : bu = u := by omega
          subst e
          clear hlt hu
          have hb2 : (wr.alloc (.cells (mc (.int .i32 0) 1 N) 21)).heap[wr.heap.size]? = some (.cells (mc (.int .i32 0) 1 N) 21) := heap_alloc_new _ _
          have HSO : Hid (Row (wr.alloc (.cells (mc (.int .i32 0) 1 N) 21)) wr.heap.size N (fun _ => .int .i32 0)) := Row.made1 _ _ _ _ 21 rfl hb2
          have lso := heap_lt hb2
          have HCT : Hid (CT (wr.alloc (.cells (mc (.int .i32 0) 1 N) 21)) wr.heap.size N) := ⟨_, hb2, by rw [mc_size, Nat.mul_one]⟩
          have k2 := Keep.alloc (fun _ => False) wr (.cells (mc (.int .i32 0) 1 N) 21)
          have zr := HK.out.size
          have HST2 : Hid (Row (wr.alloc (.cells (mc (.int .i32 0) 1 N) 21)) ST (bu + 1) (fun i => .int .i32 (pre src N i : Int))) := (HR.out.keep (k2.block ST (by omega) id)).congr (fun i hi => by simp [show i ≤ bu by omega])
          have HKw2 : Hid (Keep (fun _ => False) w (wr.alloc (.cells (mc (.int .i32 0) 1 N) 21))) := (HK1.out.trans HK.out (fun b q => .inr (by have := HST.out; omega))).trans k2 (fun _ q => q.elim)
          have HCL := fun _ : Unit => clone32 ST bu (bu + 1) (fun i => (pre src N i : Int)) (wr.alloc (.cells (mc (.int .i32 0) 1 N) 21)) (by omega) (by omega) (fun i hi => HST2.out.cell i (by omega))
          have hSOl : wr.heap.size ≤ wr.heap.size := Nat.le_refl _
          have zw : w.heap.size ≤ wr.heap.size := (HK1.out.trans HK.out (F' := fun b => b = ST) (fun b q => .inr (by have := HST.out; omega))).size
          clear hb2 k2 HR HK hSOl
          go_upto_region 13 with fail
          generalize wr.alloc (.cells (mc (.int .i32 0) 1 N) 21) = w4 at *
          obtain ⟨SO, HSOb⟩ : ∃ b, Hid (b = wr.heap.size) := ⟨_, rfl⟩
          rw [← HSOb.out] at HSO HCT lso zr zw ⊢
          have b1 : (0 : Int) ≤ (bu : Int) := by omega
          have b2 : (bu : Int) ≤ (bu : Int) + 1 := by omega
          have b3 : (bu : Int).toNat = bu := by omega
          go_upto_region 14 with (first
            | (go_at_call 118; refine (HCL ()).mono ?_; clear HCL; rintro e w5 ⟨fa, fc, rfl, hvf, hfa, hk5⟩))
          have HVF : Hid _ := hvf
          have HFA : Hid _ := hfa
          have HK5 : Hid (Keep (fun _ => False) w w5) := HKw2.out.trans hk5 (fun _ q => q.elim)
          have HSO5 : Hid _ := HSO.out.keep (hk5.block SO lso id)
          have HCT5 : Hid _ := CT.keep HCT.out (hk5.block SO lso id)
          have HST5 : Hid _ := HST2.out.keep (hk5.block ST (by omega) id)
          have z5 := hk5.size
          clear hvf hfa hk5 HSO HCT HST2 HKw2 b1 b2 b3
          go_wp2
          go_loopg [59] N (fun gk s wr => ∃ (k : Nat) (so : Nat → Int), k ≤ N ∧ s = .int .i64 (k : Int) ∧ gk = N - k ∧ Hid (Row wr SO N (fun i => .int .i32 (so i))) ∧ Hid (∀ i, i < N → 0 ≤ so i ∧ so i < L) ∧ Hid (Vec wr 21 1 fa bu fc (fun i _ => .int .i32 ((pre src N i + cnt src i k : Nat) : Int))) ∧ Hid (Keep (fun b => b = SO ∨ fa = some ⟨b, 0, none⟩) w5 wr) ∧ Hid (CT wr SO N))
          case atStart => exact ⟨0, fun _ => 0, Nat.zero_le _, rfl, rfl, HSO5, fun i _ => by show (0 : Int) ≤ 0 ∧ (0 : Int) < L; omega, HVF.out.congr Nat.one_pos (fun i _ _ _ => by simp [cnt]), Keep.refl _ _, HCT5⟩
          case round =>
            clear HSO5 HVF HCT5
            obtain ⟨k, so, hk, rfl, rfl, HR, HSL, HV, HK, HCT⟩ := hrel
            have hSOw : w.heap.size ≤ SO := by omega
            have hKw : Keep (fun _ => False) w wr := HK5.out.trans HK.out (fun b q => .inr (by
              rcases q with q | q
              · omega
              · have := HFA.out b q; omega))
            by_cases hlt : k < N
            · obtain ⟨B, o, rfl, hBw, hcell⟩ := HIT.out (by omega)
              have k1 : (k : Int) < (N : Int) := by omega
              have k2 : (k : Int).toNat = k := by omega
              have ei : wr.cell? ⟨B, o + k, none⟩ = some (.int .i32 (it k)) := (hKw.cell ⟨B, o + k, none⟩ hBw id).trans (hcell k hlt)
              have HC := fun _ : Unit => HB.out wr hKw k hlt
              have hbl := HBK.out k hlt
              obtain ⟨s, hs⟩ : ∃ s, Hid (s = bk k) := ⟨_, rfl⟩
              rw [← hs.out] at HC hbl
              have hsk : Hid (src k = (s : Int)) := by rw [HSRC.out, hs.out]; rfl
              obtain ⟨gF, rfl, hgF, rF⟩ := HV.out.row (by omega)
              have hgF4 := HFA.out gF rfl
              obtain ⟨P, HP⟩ : ∃ P, Hid (P = pre src N s + cnt src s k) := ⟨_, rfl⟩
              have hPN : P < N := by
                have h1 := cnt_lt src s k N hlt hsk.out
                have h2 : pre src N s + cnt src s N ≤ N := pre_le src (s + 1) N
                rw [HP.out]; omega
              have s1 : (s : Int) < (bu : Int) := by omega
              have s2 : (s : Int).toNat = s := by omega
              have p1 : (P : Int) < (N : Int) := by omega
              have p2 : (P : Int).toNat = P := by omega
              have pw : IntKind.i32.wrap ((P : Int) + 1) = (P : Int) + 1 := by unfold IntKind.wrap; simp [IntKind.bits, IntKind.signed]; omega
              have hSg : SO ≠ gF := by omega
              clear hKw hcell rF
              go_upto_region 18 with (first
                | (refine (HC ()).mono ?_; clear HC; rintro e w6 ⟨rfl, hk6⟩))
              have HR6 : Hid _ := HR.out.keep (hk6.block SO (by have := HK.out.size; omega) id)
              have HV6 : Hid _ := HV.out.keep hk6 (fun _ _ q => q)
              have HCT6 : Hid _ := CT.keep HCT.out (hk6.block SO (by have := HK.out.size; omega) id)
              have HK6 : Hid (Keep (fun b => b = SO ∨ some (⟨gF, 0, none⟩ : Addr) = some ⟨b, 0, none⟩) w5 w6) := HK.out.trans hk6 (fun _ q => q.elim)
              clear HR HV HK hk6 ei HCT
              obtain ⟨_, hgg, _, rF⟩ := HV6.out.row (by omega)
              injection hgg with hgg; injection hgg with hgg
              subst hgg
              have eF : w6.cell? ⟨gF, s, none⟩ = some (.int .i32 (P : Int)) := by have := rF.cell s (by omega); rw [this, HP.out]
              have fF := rF.free s
              have eS := HR6.out.cell P hPN
              have fS := HR6.out.free P
              have HR7 : Hid (Row ((w6.setCell ⟨SO, P, none⟩ (.int .i32 (it k))).setCell ⟨gF, s, none⟩ (.int .i32 ((P : Int) + 1))) SO N (fun i => .int .i32 (if i = P then it k else so i))) := ((HR6.out.set P (.int .i32 (it k)) hPN).congr (fun i _ => by split <;> rfl)).keep (Below.heap_setCell _ _ _ _ hSg)
              have HCT7 : Hid (CT ((w6.setCell ⟨SO, P, none⟩ (.int .i32 (it k))).setCell ⟨gF, s, none⟩ (.int .i32 ((P : Int) + 1))) SO N) := (CT.set HCT6.out P _).keep (Below.heap_setCell _ _ _ _ hSg)
              have HV7 : Hid (Vec ((w6.setCell ⟨SO, P, none⟩ (.int .i32 (it k))).setCell ⟨gF, s, none⟩ (.int .i32 ((P : Int) + 1))) 21 1 (some ⟨gF, 0, none⟩) bu fc (fun i _ => .int .i32 ((pre src N i + cnt src i (k + 1) : Nat) : Int))) := by
                have v1 := HV6.out.keep (Keep.setCell w6 ⟨SO, P, none⟩ (.int .i32 (it k))) (fun b hb q => by injection hb with hb; injection hb with hb; have q2 : b = SO := q; omega)
                have v2 := v1.set s 0 (.int .i32 ((P : Int) + 1)) hbl (by decide)
                simp only [Nat.mul_one, Nat.add_zero] at v2
                refine v2.congr Nat.one_pos (fun i c _ hc => ?_)
                have hc0 : c = 0 := by omega
                subst hc0
                by_cases e : i = s
                · subst e
                  have e1 : cnt src i (k + 1) = cnt src i k + 1 := by show cnt src i k + _ = _; rw [if_pos hsk.out]
                  simp only [and_self, if_true]
                  rw [e1, HP.out]; congr 1
                · have e1 : cnt src i (k + 1) = cnt src i k := by show cnt src i k + _ = _; rw [if_neg (by have := hsk.out; omega)]; rfl
                  simp only [e, false_and, if_false]
                  rw [e1]
              have HK7 : Hid (Keep (fun b => b = SO ∨ some (⟨gF, 0, none⟩ : Addr) = some ⟨b, 0, none⟩) w5 ((w6.setCell ⟨SO, P, none⟩ (.int .i32 (it k))).setCell ⟨gF, s, none⟩ (.int .i32 ((P : Int) + 1)))) := (HK6.out.trans (Keep.setCell w6 ⟨SO, P, none⟩ _) (fun b q => .inl (.inl q))).trans (Keep.setCell _ ⟨gF, s, none⟩ _) (fun b q => .inl (.inr (by have q2 : b = gF := q; rw [q2])))
              have HSL7 : Hid (∀ i, i < N → 0 ≤ (if i = P then it k else so i) ∧ (if i = P then it k else so i) < L) := fun i hi => by
                by_cases e : i = P
                · simp only [e, if_true]; exact HIL.out k hlt
                · simp only [e, if_false]; exact HSL.out i hi
              have hSg2 : gF ≠ SO := fun q => hSg q.symm
              clear HR6 HV6 HK6 rF HCT6
              go_wp2
              clear eF fF eS fS
              generalize ((w6.setCell ⟨SO, P, none⟩ (.int .i32 (it k))).setCell ⟨gF, s, none⟩ (.int .i32 ((P : Int) + 1))) = w7 at *
              go_roundg (N - (k + 1))
              case measure => omega
              case rel => exact ⟨k + 1, _, by omega, by go_num, rfl, HR7, HSL7, HV7, HK7, HCT7⟩
            · have e : N = k := by omega
              subst e
              have zz := HK.out.size
              have hRST : Row wr ST (bu + 1) (fun i => .int .i32 (pre src N i : Int)) := HST5.out.keep (HK.out.block ST (by omega) (by
                rintro (q | q)
                · omega
                · have := HFA.out ST q; omega))
              have HRT : Hid _ := hRST
              have HKK : Hid _ := hKw
              clear hRST hKw
              go_wp2
              go_ret2
              exact ⟨⟨SO, ST, so, fun b => pre src N b, rfl, HR.out, HRT.out, HSL.out, fun b _ => pre_mono src N b (b + 1) (by omega), fun b _ => pre_le src b N, hSOw, Nat.le_of_eq HST.out.symm, by omega, by omega, HCT.out⟩, HKK.out⟩
end Go.Proofs.YbulkdvbsGreat

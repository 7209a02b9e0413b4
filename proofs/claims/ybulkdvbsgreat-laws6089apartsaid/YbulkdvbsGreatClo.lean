/-
  cycleAnomalies$2, $3, $4, walked.
-/
import Derived.Test.YbulkdvbsGreatEnv
namespace Go.Proofs.YbulkdvbsGreat
open Go.RowKit
section
variable {G n E : Nat} {la : Option Addr} {lc : Nat} {ga : Option Addr} {gc FB NX KN : Nat} {ah : Value} {first : Nat → Nat} {next kd : Nat → Int} {b5 TX tc : Nat} {tx : Nat → Int} {b6 CO : Nat} {comp : Nat → Int} {b10 b11 b12 S b13 FL : Nat} {flow : Nat → Int} {RE PA VI : Nat} {fb : Option Addr} {fl : Nat}
theorem path_in (w : World) (h : EW G n E la lc ga gc FB NX KN ah first next kd b5 TX tc tx b6 CO comp b10 b11 b12 S b13 FL flow w) (hm : MW w b10 fb fl S G n RE PA VI) (hd : ∀ b, eB G n ga FB NX KN ah b5 TX b6 CO b11 b12 b13 FL b → ¬ mB b10 fb S RE PA VI b) (X : Nat) (xc : Nat → Int) (hX : Row w X n (fun i => .int .i32 (xc i))) (hXl : X < w.heap.size) (hXd : ¬ sOwn S RE PA VI X) (rk : Value) (hrk : rk = .slice none 0 0 ∨ rk = .slice (some ⟨FL, 0, none⟩) n n) (f t : Nat) (hf : f < n) (ht : t < n) (allow : Int) (hal : allow = 63 ∨ (1 ≤ allow ∧ allow ≤ 62)) :
    Calls Ybaz.prog 139 #[.pointer (some ⟨S, 0, none⟩), .int .i64 (f : Int), .int .i64 (t : Int), .int .u8 allow, .slice (some ⟨X, 0, none⟩) n n, rk] w fun e w' => PEnd w w' S G n RE PA VI e := by
  obtain ⟨k0, re, pa, vi, hs⟩ := hm.sr
  refine (path_any G n E la lc ga gc FB NX KN ah first next kd true S k0 RE PA VI re pa vi X n xc rk FL flow f t allow False w h.hn h.hE h.gl h.ao (or2 hal id (fun q => ⟨rfl, q⟩)) hs (fun b hb q => hd b (.inl hb) (.inr (.inr q))) hX hXl hXd ?_ hf ht (fun q => q.elim)).mono (fun e w' q => pend_of q)
  rcases hrk with q | q
  · exact .inl q
  · exact .inr ⟨q, h.rf, h.lt _ (.inr (.inr (.inr (.inr (.inr (.inr (.inr (.inr rfl)))))))), fun r => hd FL (.inr (.inr (.inr (.inr (.inr (.inr (.inr (.inr rfl)))))))) (.inr (.inr r))⟩

/-- Behind a closure that may add an anomaly. -/
def MNext (w w' : World) (b10 : Nat) (fb : Option Addr) (fl S G n RE PA VI : Nat) : Prop := ∃ fb', MW w' b10 fb' fl S G n RE PA VI ∧ (fb' = fb ∨ ∃ b, fb' = some ⟨b, 0, none⟩ ∧ w.heap.size ≤ b) ∧ Keep (mB b10 fb S RE PA VI) w w'
theorem mnext_of {w w2 w' : World} (hm : MW w b10 fb fl S G n RE PA VI) (hs : ∃ k re pa vi, SR w2 S G n k RE PA VI re pa vi) (hk : Keep (sOwn S RE PA VI) w w2) (ha : Added w2 w' b10 fb fl) : MNext w w' b10 fb (fl + 1) S G n RE PA VI := by
  obtain ⟨fb', h1, h2, h3⟩ := ha
  obtain ⟨k0, re, pa, vi, hs⟩ := hs
  have hsz := hk.size
  refine ⟨fb', ⟨h1, ⟨k0, re, pa, vi, hs.keep h3 ?_⟩, hm.d1, ?_⟩, ?_, ?_⟩
  · rintro b hb (q | q)
    · subst q; exact hm.d1 hb
    · exact hm.d2 b q hb
  · intro b hb q
    rcases h2 with r | ⟨b', r, r2⟩
    · rw [r] at hb; exact hm.d2 b hb q
    · rw [r] at hb; injection hb with hb; injection hb with hb
      have := hs.own b q; omega
  · rcases h2 with r | ⟨b', r, r2⟩
    · exact .inl r
    · exact .inr ⟨b', r, by omega⟩
  · refine (hk.wide (fun b q => .inr (.inr q))).trans h3 ?_
    rintro b (q | q)
    · exact .inl (.inl q)
    · exact .inl (.inr (.inl q))

set_option maxHeartbeats 4000000 in
set_option maxRecDepth 100000 in
/-- cycleAnomalies$2. -/
theorem yield1_any (w : World) (h : EW G n E la lc ga gc FB NX KN ah first next kd b5 TX tc tx b6 CO comp b10 b11 b12 S b13 FL flow w) (hm : MW w b10 fb fl S G n RE PA VI) (hd : ∀ b, eB G n ga FB NX KN ah b5 TX b6 CO b11 b12 b13 FL b → ¬ mB b10 fb S RE PA VI b) (u v : Nat) (hu : u < n) (hv : v < n) (d : Int) (hfl : fl ≤ 50) :
    Calls Ybaz.prog 145 #[.int .i64 (u : Int), .int .i64 (v : Int), .int .u8 d, .pointer (some ⟨b12, 0, none⟩), .pointer (some ⟨b13, 0, none⟩), .pointer (some ⟨b11, 0, none⟩)] w fun e w' => e = .returned (.bool false) ∧ MNext w w' b10 fb (fl + 1) S G n RE PA VI := by
  have c12 : w.cell? ⟨b12, 0, none⟩ = some (.pointer (some ⟨S, 0, none⟩)) := cell_of _ _ 0 _ _ h.c12
  have c13 : w.cell? ⟨b13, 0, none⟩ = some (.slice (some ⟨FL, 0, none⟩) n n) := cell_of _ _ 0 _ _ h.c13
  have eFL : eB G n ga FB NX KN ah b5 TX b6 CO b11 b12 b13 FL FL := .inr (.inr (.inr (.inr (.inr (.inr (.inr (.inr rfl)))))))
  have HP := fun _ : Unit => path_in w h hm hd FL flow h.rf (h.lt _ eFL) (fun q => hd FL eFL (.inr (.inr q))) (.slice none 0 0) (.inl rfl) v u hv hu 27 (.inr ⟨by decide, by decide⟩)
  have H0 : Hid _ := h
  have HM0 : Hid _ := hm
  have HD0 : Hid _ := hd
  clear h hm hd
  go_enter Ybaz.func145, Ybaz.ntmps145
  go_upto_region 2 with (first
    | (go_at_call 139; refine (HP ()).mono ?_; clear HP; rintro e w2 ⟨⟨back, edges, rfl, hpe⟩, hs2, hk2⟩))
  clear c12 c13
  have h2 := H0.out.keep hk2 (fun b hb q => HD0.out b hb (.inr (.inr q)))
  have c11 : w2.cell? ⟨b11, 0, none⟩ = some (.func (.func 141) #[] #[.pointer (some ⟨b5, 0, none⟩), .pointer (some ⟨b10, 0, none⟩)]) := cell_of _ _ 0 _ _ h2.c11
  obtain ⟨_, m, f, dd, hm6, hb, he, hf, _⟩ := hpe
  have HAD := fun _ : Unit => add_any b5 b10 TX n tc tx 3 u m d back edges f dd fb fl w2 (HM0.out.fd.keep hk2 HM0.out.d1 HM0.out.d2) h2.t5 h2.rx (h2.lt _ (.inr (.inr (.inl rfl)))) hu hm6 hb hf he (by omega) ⟨by decide, by decide⟩
  have HS2 : Hid _ := hs2
  have HK2 : Hid _ := hk2
  clear h2 hs2 hk2 hb he hf
  go_wp2_with (first
    | (go_at_call 141; refine (HAD ()).mono ?_; clear HAD; rintro e w3 ⟨rfl, ha3⟩))
  go_ret
  exact ⟨rfl, mnext_of HM0.out HS2.out HK2.out ha3⟩

set_option maxHeartbeats 4000000 in
set_option maxRecDepth 100000 in
/-- cycleAnomalies$3. -/
theorem closed_any (w : World) (h : EW G n E la lc ga gc FB NX KN ah first next kd b5 TX tc tx b6 CO comp b10 b11 b12 S b13 FL flow w) (hm : MW w b10 fb fl S G n RE PA VI) (hd : ∀ b, eB G n ga FB NX KN ah b5 TX b6 CO b11 b12 b13 FL b → ¬ mB b10 fb S RE PA VI b) (u v : Nat) (hu : u < n) (hv : v < n) :
    Calls Ybaz.prog 146 #[.int .i64 (u : Int), .int .i64 (v : Int), .pointer (some ⟨b13, 0, none⟩), .pointer (some ⟨b12, 0, none⟩), .pointer (some ⟨b6, 0, none⟩)] w fun e w' => PEnd w w' S G n RE PA VI e := by
  have eFL : eB G n ga FB NX KN ah b5 TX b6 CO b11 b12 b13 FL FL := .inr (.inr (.inr (.inr (.inr (.inr (.inr (.inr rfl)))))))
  have eCO : eB G n ga FB NX KN ah b5 TX b6 CO b11 b12 b13 FL CO := .inr (.inr (.inr (.inr (.inl rfl))))
  have kq : ∀ q, Keep (fun _ => False) w (w.drewN q) := fun q => (Keep.refl _ _).drewN q
  have HP1 : ∀ (_ : Unit) (q : Nat), Calls Ybaz.prog 139 #[.pointer (some ⟨S, 0, none⟩), .int .i64 (v : Int), .int .i64 (u : Int), .int .u8 27, .slice (some ⟨FL, 0, none⟩) n n, .slice none 0 0] (w.drewN q) fun e w' => PEnd w w' S G n RE PA VI e := fun _ q =>
    (path_in (w.drewN q) (h.keep (kq q) (fun _ _ r => r)) (hm.keep (kq q) (fun _ _ r => r)) hd FL flow (h.rf.keep ((kq q).block _ (h.lt _ eFL) id)) (h.lt _ eFL) (fun r => hd FL eFL (.inr (.inr r))) (.slice none 0 0) (.inl rfl) v u hv hu 27 (.inr ⟨by decide, by decide⟩)).mono (fun e w' r => ⟨r.1, r.2.1, ((kq q).wide (fun _ r => r.elim)).trans r.2.2 (fun _ r => .inl r)⟩)
  have HP2 : ∀ (_ : Unit) (q : Nat), Calls Ybaz.prog 139 #[.pointer (some ⟨S, 0, none⟩), .int .i64 (v : Int), .int .i64 (u : Int), .int .u8 27, .slice (some ⟨CO, 0, none⟩) n n, .slice (some ⟨FL, 0, none⟩) n n] (w.drewN q) fun e w' => PEnd w w' S G n RE PA VI e := fun _ q =>
    (path_in (w.drewN q) (h.keep (kq q) (fun _ _ r => r)) (hm.keep (kq q) (fun _ _ r => r)) hd CO comp (h.rc.keep ((kq q).block _ (h.lt _ eCO) id)) (h.lt _ eCO) (fun r => hd CO eCO (.inr (.inr r))) (.slice (some ⟨FL, 0, none⟩) n n) (.inr rfl) v u hv hu 27 (.inr ⟨by decide, by decide⟩)).mono (fun e w' r => ⟨r.1, r.2.1, ((kq q).wide (fun _ r => r.elim)).trans r.2.2 (fun _ r => .inl r)⟩)
  have HN : ∀ q, Hid (PEnd w (w.drewN q) S G n RE PA VI (.returned (.tuple #[.slice none 0 0, .slice none 0 0]))) := fun q => ⟨⟨_, _, rfl, pe_nil _ _ _⟩, (hm.keep (kq q) (fun _ _ r => r)).sr, (kq q).wide (fun _ r => r.elim)⟩
  have c12 : w.cell? ⟨b12, 0, none⟩ = some (.pointer (some ⟨S, 0, none⟩)) := cell_of _ _ 0 _ _ h.c12
  have c13 : w.cell? ⟨b13, 0, none⟩ = some (.slice (some ⟨FL, 0, none⟩) n n) := cell_of _ _ 0 _ _ h.c13
  have c6 : w.cell? ⟨b6, 0, none⟩ = some (.slice (some ⟨CO, 0, none⟩) n n) := cell_of _ _ 0 _ _ h.c6
  have e1 := h.rf.cell u hu
  have e2 := h.rf.cell v hv
  have u1 : (u : Int) < (n : Int) := by omega
  have u2 : (u : Int).toNat = u := by omega
  have v1 : (v : Int) < (n : Int) := by omega
  have v2 : (v : Int).toNat = v := by omega
  clear h hm hd kq
  go_enter Ybaz.func146, Ybaz.ntmps146
  go_upto_region 1 with fail
  go_quiet (fail)
  by_cases q1 : flow u = flow v
  · have q2 : (flow u == flow v) = true := by simpa using q1
    clear q1
    go_wp2_with (first
      | (go_at_call 139; refine (HP1 () _).mono ?_; clear HP1; rintro e w2 ⟨⟨back, edges, rfl, hpe⟩, hs2, hk2⟩))
    go_ret2
    exact ⟨⟨_, _, rfl, hpe⟩, hs2, hk2⟩
  · have q2 : (flow u == flow v) = false := by simpa using q1
    clear q1
    go_upto_region 3 with fail
    go_quiet (fail)
    by_cases q3 : flow v < flow u
    · go_wp2
      go_ret2
      first
        | exact (HN _).out
        | (rw [World.drewN_drewN]; exact (HN _).out)
    · go_wp2_with (first
        | (go_at_call 139; first
            | refine (HP2 () _).mono ?_
            | (rw [World.drewN_drewN]; refine (HP2 () _).mono ?_)
           clear HP2; rintro e w2 ⟨⟨back, edges, rfl, hpe⟩, hs2, hk2⟩))
      go_ret2
      exact ⟨⟨_, _, rfl, hpe⟩, hs2, hk2⟩
end
end Go.Proofs.YbulkdvbsGreat

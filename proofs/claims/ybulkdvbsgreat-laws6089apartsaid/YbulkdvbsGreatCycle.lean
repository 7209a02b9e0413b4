/-
  cycle, walked: a component of more than one node holds a cycle through each of its nodes.
-/
import Derived.Test.YbulkdvbsGreatComp
import Derived.Test.YbulkdvbsGreatPathW
namespace Go.Proofs.YbulkdvbsGreat
open Go.RowKit

theorem PathOut.pre {w0 w w' : World} {n : Nat} {e : Ending} (h : PathOut w w' n e) (hs : w0.heap.size ≤ w.heap.size) : PathOut w0 w' n e := by
  obtain ⟨m, A, B, c1, c2, f, d, h1, h2, h3, h4, h5, h6, h7, h8, h9⟩ := h
  exact ⟨m, A, B, c1, c2, f, d, h1, h2, h3, h4, h5, h6, by omega, by omega, h9⟩
/-- Where there are two nodes in a component, the search for a cycle is not closed. -/
theorem not_closed {n : Nat} {first : Nat → Nat} {next kd comp : Nat → Int} {allow : Int} (hc : Conn n first next kd allow comp) (s : Nat) (hs : s < n) (h : cyc comp n s = true) : ¬ Closed n first next kd comp allow s s := by
  rintro ⟨R, hR, hcl⟩
  obtain ⟨h0, v, hv, hvs, hcv⟩ := cyc_two comp n s h
  have step : ∀ x y, R x → Fw first next kd allow x y → y ≠ s ∧ (comp y = comp s → R y) := by
    rintro x y hx ⟨e, h1, h2, h3, h4⟩
    have := (hcl x hx).2 e h1 h2 h3
    rw [h4] at this
    exact ⟨fun q => this.1 (by rw [q]), this.2⟩
  have rv : R v := hc s v hs hv h0 hcv.symm R hR (fun x y hx hf he => (step x y hx hf).2 he)
  have := hc v s hv hs (by omega) hcv (fun x => R x ∧ x ≠ s) ⟨rv, hvs⟩ (fun x y hx hf he => ⟨(step x y hx.1 hf).2 (by omega), (step x y hx.1 hf).1⟩)
  exact this.2 rfl

/-- Behind cycle. -/
def CycRes (w w' : World) (n : Nat) (e : Ending) : Prop := e = .returned (.tuple #[.slice none 0 0, .slice none 0 0]) ∨ PathOut w w' n e
set_option maxHeartbeats 8000000 in
set_option maxRecDepth 100000 in
theorem cycle_any (G n E : Nat) (la : Option Addr) (lc : Nat) (ga : Option Addr) (gc FB NX KN : Nat) (ah : Value) (first : Nat → Nat) (next kd : Nat → Int) (ok : Bool) (CO cc : Nat) (comp : Nat → Int) (allow : Int) (w : World)
    (hn : n ≤ 5) (hn0 : 0 < n) (hE : E ≤ 100000) (hgl : GL w G n E la lc ga gc FB NX KN ah first next kd) (ha : Ah w n ah ok) (hal : allow = 63 ∨ (ok = true ∧ 1 ≤ allow ∧ allow ≤ 62)) (hco : Row w CO n (fun i => .int .i32 (comp i))) (hCO : CO < w.heap.size) (hcr : ∀ i, i < n → -1 ≤ comp i ∧ comp i < n) (hcn : Conn n first next kd allow comp) :
    Calls Ybaz.prog 69 #[.pointer (some ⟨G, 0, none⟩), .int .u8 allow, .slice (some ⟨CO, 0, none⟩) n cc] w fun e w' => CycRes w w' n e ∧ Keep (fun _ => False) w w' := by
  have n1 : (n : Int) ≤ 5 := by omega
  have n2 : (n : Int).toNat = n := by omega
  have n3 : (0 : Int) ≤ (n : Int) := by omega
  have hGl := heap_lt hgl.blk
  have c0 : w.cell? ⟨G, 0, none⟩ = some (.int .i64 (n : Int)) := cell_of w G 0 _ _ hgl.blk
  have HC : Hid (∀ v : World, Keep (fun _ => False) w v → Calls Ybaz.prog 137 #[.slice (some ⟨CO, 0, none⟩) n cc] v fun e w' => ∃ CY, e = .returned (.slice (some ⟨CY, 0, none⟩) n n) ∧ w'.cell? ⟨G, 0, none⟩ = some (.int .i64 (n : Int)) ∧ Hid (Row w' CY n (fun i => .bool (cyc comp n i))) ∧ Hid (Keep (fun _ => False) w w')) := fun v kv => by
    refine (cyclic_any CO n cc comp v hn (hco.keep (kv.block CO hCO id)) (Nat.lt_of_lt_of_le hCO kv.size) hcr).mono ?_
    rintro e w' ⟨⟨CY, rfl, h1, h2, h3⟩, h4⟩
    have kk := kv.trans h4 (fun _ q => q.elim)
    exact ⟨CY, rfl, (kk.cell ⟨G, 0, none⟩ hGl id).trans c0, h3, kk⟩
  have HGL : Hid _ := hgl
  have HA : Hid _ := ha
  have HAL : Hid _ := hal
  have HCO : Hid _ := hco
  have HCN : Hid _ := hcn
  clear hgl ha hal hco hcn
  go_enter Ybaz.func69, Ybaz.ntmps69
  go_upto_region 1 with fail
  go_region_held3 (fun w' => w'.cell? ⟨G, 0, none⟩ = some (.int .i64 (n : Int))) (first | assumption | go_keep) (first
    | (go_at_call 137; refine (HC.out _ ?_).mono ?_; (exact ⟨rfl, rfl, rfl, Nat.le_refl _, fun _ _ _ => rfl⟩); rintro e w2 ⟨CY, rfl, hS2, HR2, HK2⟩)
    | (go_at_call 136; refine (indexB CY n n _ _ (by omega) HR2.out.cell).mono ?_; rintro e w3 ⟨⟨r, rfl, hr⟩, rfl⟩))
  have HR : Hid _ := hr
  clear hr
  obtain ⟨w3, rfl⟩ : ∃ x, x = w2 := ⟨w2, rfl⟩
  have HK3 : Hid _ := HK2.out
  clear HK2 HR2 c0
  have hnil := fun W (a : Option Addr) n' c' => Lib.run_eql_slice_nil (P := Ybaz.prog) W 62 3 a n' c' 0 0 Ybaz.underlying62
  rcases HR.out with rfl | ⟨u, rfl, hu, hcy⟩
  · go_wp2
    go_ret2
    exact ⟨.inl rfl, HK3.out⟩
  · have HCY : Hid _ := hcy
    clear hcy
    have gl3 := HGL.out.keepB HK3.out (fun _ _ q => q)
    have ah3 := Ah.keep HA.out HK3.out (fun _ _ q => q)
    have c1 : w3.cell? ⟨G, 1, none⟩ = some (.slice la n lc) := cell_of w3 G 1 _ _ gl3.blk
    have HS := fun _ : Unit => newSr_any G n lc la w3 hn c1
    have hs3 := HK3.out.size
    have HOB : Hid (∀ b, gBlk G ga FB NX KN n ah b → b < w3.heap.size) := by
      obtain ⟨l1, l2, l3⟩ := gl3.lt
      have l0 := heap_lt gl3.blk
      rintro b (q | q | q | q | q | q)
      · omega
      · exact gl3.vg.lt q
      · omega
      · omega
      · omega
      · rcases ah3 with ⟨_, r⟩ | ⟨_, AH, r, _, r2⟩
        · rw [r] at q; unfold vnil at q; injection q with q; cases q
        · rw [r] at q; injection q with q; injection q with q; injection q with q; omega
    have HG3 : Hid _ := gl3
    have HA3 : Hid _ := ah3
    clear gl3 ah3 c1
    go_wp2_with (first
      | (go_at_call 138; refine (HS ()).mono ?_; clear HS; rintro e w4 ⟨⟨S, RE, PA, VI, rfl, hsr, s1, s2, s3, s4⟩, hk4⟩
         have hown : ∀ b, sOwn S RE PA VI b → w3.heap.size ≤ b := (fun b q => (by rcases q with q | q | q | q <;> omega))
         have HPT := fun _ : Unit => path_any G n E la lc ga gc FB NX KN ah first next kd ok S 0 RE PA VI _ _ _ CO cc comp (.slice none 0 0) 0 (fun _ => 0) u u allow True w4 hn hE (HG3.out.keepB hk4 (fun _ _ q => q)) (Ah.keep HA3.out hk4 (fun _ _ q => q)) HAL.out hsr (fun b hb q => by have := HOB.out b hb; have := hown b q; omega) ((HCO.out.keep (HK3.out.block CO hCO id)).keep (hk4.block CO (by omega) id)) (by have := hk4.size; omega) (fun q => by have := hown CO q; omega) (.inl rfl) hu hu (fun _ => ⟨rfl, fun v _ => by decide⟩)
         have HK4 : Hid _ := hk4
         have HOW : Hid _ := hown
         clear hsr hk4 hown)
      | (go_at_call 139; refine (HPT ()).mono ?_; clear HPT; rintro e w5 ⟨⟨_, hpr⟩, hk5⟩
         rcases hpr with hpo | ⟨_, hcl⟩
         case inr => exact absurd (hcl trivial) (not_closed HCN.out u hu HCY.out)
         have HPO : Hid _ := hpo
         have HK5 : Hid _ := hk5
         obtain ⟨m, A, B, c1, c2, f, d, h1, h2, rfl, hrest⟩ := hpo
         clear hrest hk5))
    go_ret2
    refine ⟨.inr (PathOut.pre HPO.out (by have := HK4.out.size; omega)), ?_⟩
    exact (HK3.out.trans HK4.out (fun _ q => q.elim)).trans HK5.out (fun b q => .inr (by have := HOW.out b q; omega))
end Go.Proofs.YbulkdvbsGreat

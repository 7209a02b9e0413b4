/-
  ContainsFunc(ops, NamesVersion), walked: no operation names a version.
-/
import Derived.Test.YbulkdvbsGreatKeys
import Derived.Test.YbulkdvbsGreatLink
namespace Go.Proofs.YbulkdvbsGreat
open Go.RowKit

set_option maxHeartbeats 4000000 in
set_option maxRecDepth 100000 in
/-- Op.NamesVersion. -/
theorem names_any (k t : Int) (s : ByteArray) (w : World) : Calls Ybaz.prog 11 #[.agg #[.int .u8 k, .int .u64 t, .string s, .string ⟨#[]⟩, .bool false, .int .u64 0, .slice none 0 0]] w fun e w' => e = .returned (.bool false) ∧ Keep (fun _ => False) w w' := by
  have HK : Hid _ := Keep.alloc (fun _ => False) w (.cells #[.int .u8 k, .int .u64 t, .string s, .string ⟨#[]⟩, .bool false, .int .u64 0, .slice none 0 0] 34)
  go_enter Ybaz.func11, Ybaz.ntmps11
  go_wp2
  go_ret
  exact ⟨rfl, HK.out⟩
theorem cf11 (args : Array Value) (W : World) : (callFunc 11 args).run Ybaz.prog W = .ok (.enter 11 args) W := cf Ybaz.func11 (by kernel_rfl) (by kernel_rfl) args W
set_option maxHeartbeats 4000000 in
set_option maxRecDepth 100000 in
/-- IndexFunc. -/
theorem indexF_any (OB M oc : Nat) (kd tx ky : Nat → Nat) (w : World) (h : OP w OB M kd tx ky) :
    Calls Ybaz.prog 23 #[.slice (some ⟨OB, 0, none⟩) M oc, .func (.func 11) #[] #[]] w fun e w' => e = .returned (.int .i64 (-1)) ∧ Keep (fun _ => False) w w' := by
  have HO : Hid _ := h
  have hM := h.hM
  have hM' : (M : Int) ≤ 2000 := by omega
  clear h
  go_enter Ybaz.func23, Ybaz.ntmps23
  go_wp2
  go_loopg [8] M (fun gk s wr => ∃ i : Nat, i ≤ M ∧ s = .int .i64 (i : Int) ∧ gk = M - i ∧ Hid (Keep (fun _ => False) w wr))
  case atStart => exact ⟨0, Nat.zero_le _, rfl, rfl, Keep.refl _ _⟩
  case round =>
    obtain ⟨i, hi, rfl, rfl, HK⟩ := hrel
    by_cases hlt : i < M
    · have i1 : (i : Int) < (M : Int) := by omega
      have i2 : (i : Int).toNat = i := by omega
      obtain ⟨e0, e1, e2, e3, e4, e5, e6⟩ := (HO.out.keep HK.out id).cell i hlt
      have HC := fun (_ : Unit) => (names_any (kd i : Int) (tx i : Int) (kstr (ky i)) wr).mono (fun e w' h => (⟨h.1, h.2⟩ : e = .returned (.bool false) ∧ Hid (Keep (fun _ => False) wr w')))
      go_wp2_with (go_at_call 11; refine (HC ()).mono ?_; rintro e w2 ⟨rfl, HK2⟩)
      have HK3 : Hid (Keep (fun _ => False) w w2) := HK.out.trans HK2.out (fun _ q => q.elim)
      go_roundg (M - (i + 1))
      case measure => omega
      case rel => exact ⟨i + 1, by omega, by go_num, rfl, HK3⟩
    · obtain rfl : i = M := by omega
      have q1 : ¬ (i : Int) < (i : Int) := by omega
      go_wp2
      go_ret
      exact ⟨rfl, HK.out⟩
set_option maxHeartbeats 4000000 in
set_option maxRecDepth 100000 in
/-- ContainsFunc. -/
theorem contains_any (OB M oc : Nat) (kd tx ky : Nat → Nat) (w : World) (h : OP w OB M kd tx ky) :
    Calls Ybaz.prog 10 #[.slice (some ⟨OB, 0, none⟩) M oc, .func (.func 11) #[] #[]] w fun e w' => e = .returned (.bool false) ∧ Keep (fun _ => False) w w' := by
  have HI := fun (_ : Unit) => (indexF_any OB M oc kd tx ky w h).mono (fun e w' h => (⟨h.1, h.2⟩ : e = .returned (.int .i64 (-1)) ∧ Hid (Keep (fun _ => False) w w')))
  clear h
  go_enter Ybaz.func10, Ybaz.ntmps10
  go_wp2_with (go_at_call 23; refine (HI ()).mono ?_; rintro e w2 ⟨rfl, HK2⟩)
  go_ret
  exact ⟨rfl, HK2.out⟩
end Go.Proofs.YbulkdvbsGreat

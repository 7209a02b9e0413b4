import Derived.Test.YbulkdvcgDoorWalk2
namespace Go.Proofs.YbulkdvcgDoor
open Go.RowKit

theorem below_drewN {w : World} (q : Nat) : Below w.heap.size w (w.drewN q) := ⟨rfl, rfl, rfl, Nat.le_refl _, fun _ _ => rfl⟩

set_option maxHeartbeats 1000000 in
theorem law_some (lt : Nat → Int) (nm : Nat → ByteArray) (k : Nat) (hk : k ≤ 255) (ad : Addr) (n c b off : Nat) (S : Nat → ByteArray) (mn mx : Nat → Int) (hn : n ≤ 1048576) (w : World) (ht : Tab w lt nm) (h : Ivs w (some ad) n b off S mn mx) :
    Calls Ybad.prog 3 #[.int .u8 k, .slice (some ad) n c] w fun e w' => e = .returned (.bool true) ∧ Below w.heap.size w w' := by
  have hn2 : ¬ (1048576 : Int) < (n : Int) := by omega
  have z1 := fun W => Lib.run_eql_slice_nil (P := Ybad.prog) W 22 25 (some ad) n c 0 0 Ybad.underlying22
  go_enter Ybad.func3, Ybad.ntmps3
  go_wp2_with (first
    | (go_at_call 4; refine (clone_some ad n c b off S mn mx w hn h).mono ?_; rintro e w1 ⟨g, c', rfl, h1, hb1⟩; have z2 := fun W => Lib.run_eql_slice_nil (P := Ybad.prog) W 22 25 (some ⟨g, 0, none⟩) n c' 0 0 Ybad.underlying22)
    | (go_at_call 5; refine (role_any lt nm k hk (some ad) n c b off S mn mx hn _ (ht.later hb1) (h.later hb1)).mono ?_; rintro e w2 ⟨rfl, hb2⟩)
    | (go_at_call 6; refine (model_any k hk _ n _ _ _ S mn mx hn _ (h1.later hb2)).mono ?_; rintro e w3 ⟨rfl, q, rfl⟩)
    | (go_at_call 7; refine (equal_iv _ _ n _ _ _ _ _ _ S mn mx _ hn (((h.later hb1).later hb2).later (below_drewN q)) ((h1.later hb2).later (below_drewN q))).mono ?_; rintro e w4 ⟨rfl, q4, rfl⟩))
  go_ret
  exact ⟨rfl, (hb1.trans (hb2.mono hb1.size)).trans ((below_drewN (q + q4)).mono (Nat.le_trans hb1.size hb2.size))⟩

set_option maxHeartbeats 1000000 in
theorem law_nil (lt : Nat → Int) (nm : Nat → ByteArray) (k : Nat) (hk : k ≤ 255) (w : World) (ht : Tab w lt nm) :
    Calls Ybad.prog 3 #[.int .u8 k, .slice none 0 0] w fun e w' => e = .returned (.bool true) ∧ Below w.heap.size w w' := by
  have z1 := fun W => Lib.run_eql_slice_nil (P := Ybad.prog) W 22 25 none 0 0 0 0 Ybad.underlying22
  have h : ∀ W : World, Ivs W none 0 0 0 (fun _ => ByteArray.empty) (fun _ => 0) (fun _ => 0) := fun W => ⟨by omega, by omega, by omega, by omega⟩
  go_enter Ybad.func3, Ybad.ntmps3
  go_wp2_with (first
    | (go_at_call 4; refine (clone_nil w).mono ?_; rintro e w1 ⟨rfl, rfl⟩)
    | (go_at_call 5; refine (role_any lt nm k hk none 0 0 0 0 _ _ _ (by omega) _ ht (h _)).mono ?_; rintro e w2 ⟨rfl, hb2⟩)
    | (go_at_call 6; refine (model_any k hk none 0 0 0 0 _ _ _ (by omega) _ (h _)).mono ?_; rintro e w3 ⟨rfl, q, rfl⟩)
    | (go_at_call 7; refine (equal_iv none none 0 0 0 0 0 0 0 _ _ _ _ (by omega) (h _) (h _)).mono ?_; rintro e w4 ⟨rfl, q4, rfl⟩))
  go_ret
  exact ⟨rfl, hb2.trans ((below_drewN (q + q4)).mono hb2.size)⟩

set_option maxHeartbeats 400000 in
theorem law_big (k : Nat) (a : Option Addr) (n c : Nat) (w : World) (hn : (1048576 : Int) < (n : Int)) :
    Calls Ybad.prog 3 #[.int .u8 k, .slice a n c] w fun e w' => e = .returned (.bool true) ∧ Below w.heap.size w w' := by
  go_enter Ybad.func3, Ybad.ntmps3
  go_wp2
  go_ret
  exact ⟨rfl, Below.refl _ _⟩

end Go.Proofs.YbulkdvcgDoor

/-
  THE WALKS OF FnWireErrorFrameworkCodeWins (3), a theorem a way.
-/
import Derived.Test.Qxb6600646aModsWire
import Derived.Deep.QuietTactic
import Derived.BigQuiet
namespace Go.Proofs.Qxb6600646aMods
open Go.RowKit

theorem below_drewN' {B : Nat} {a w : World} (h : Below B a w) (n : Nat) : Below B a (w.drewN n) := h.trans ⟨rfl, rfl, rfl, Nat.le_refl _, fun _ _ => rfl⟩

theorem wins_far (a0 a1 a2 : Int) (x : Option Addr) (n cap : Nat) (w : World) (hn : 1048576 < n) :
    Calls Trym.prog 3 #[.int .i32 a0, .int .i32 a1, .int .i32 a2, .slice x n cap] w fun e w' => e = .returned (.bool true) ∧ Below w.heap.size w w' := by
  go_enter Trym.func3, Trym.ntmps3
  go_wp2_with fail
  refine (bytes5_no a0 a1 a2 x n cap w hn).mono ?_
  rintro e w' ⟨rfl, rfl⟩
  go_wp2
  go_ret
  exact ⟨rfl, Below.refl _ _⟩

theorem wins_zero (a1 a2 : Int) (x : Option Addr) (n cap : Nat) (w : World) (hn : n ≤ 1048576) :
    Calls Trym.prog 3 #[.int .i32 0, .int .i32 a1, .int .i32 a2, .slice x n cap] w fun e w' => e = .returned (.bool true) ∧ Below w.heap.size w w' := by
  go_enter Trym.func3, Trym.ntmps3
  go_wp2_with fail
  refine (bytes5_yes 0 a1 a2 x n cap w hn).mono ?_
  rintro e w' ⟨rfl, rfl⟩
  go_wp2
  go_ret
  exact ⟨rfl, Below.refl _ _⟩

set_option maxHeartbeats 400000 in
theorem wins_nil (a0 a1 a2 : Int) (w : World) (hr : (a0 == 0) = false) :
    Calls Trym.prog 3 #[.int .i32 a0, .int .i32 a1, .int .i32 a2, .slice none 0 0] w fun e w' => e = .returned (.bool true) ∧ Below w.heap.size w w' := by
  go_enter Trym.func3, Trym.ntmps3
  go_wp2_with fail
  refine (bytes5_yes a0 a1 a2 none 0 0 w (by omega)).mono ?_
  rintro e w' ⟨rfl, rfl⟩
  go_wp2_with fail
  refine (clone_nil _).mono ?_
  rintro e w' ⟨rfl, rfl⟩
  go_wp2_with fail
  refine (zz_ret a0 a1 _ _ _ hr (conv_nil _)).mono ?_
  rintro e w' ⟨rfl, rfl⟩
  go_wp2_with fail
  refine (zz_ret a0 a2 _ _ _ hr (conv_nil _)).mono ?_
  rintro e w' ⟨rfl, rfl⟩
  go_wp2_with fail
  refine (zz_ret a0 0 _ _ _ hr (conv_nil _)).mono ?_
  rintro e w' ⟨rfl, rfl⟩
  go_wp2_with fail
  go_quiet (fail)
  go_wp2
  go_ret
  exact ⟨rfl, below_drewN' ((((Below.refl _ _).alloc (Nat.le_refl _) _).alloc (by simp) _).alloc (by simp; omega) _) _⟩

set_option maxHeartbeats 400000 in
theorem wins_some (a0 a1 a2 : Int) (x : Addr) (n cap : Nat) (zs : List Int) (w : World) (hn : n ≤ 1048576) (hl : zs.length = n)
    (hcell : ∀ i, i < n → w.cell? (x.add i) = some (.int .u8 (zs.getD i 0))) (hr : (a0 == 0) = false) :
    Calls Trym.prog 3 #[.int .i32 a0, .int .i32 a1, .int .i32 a2, .slice (some x) n cap] w fun e w' => e = .returned (.bool true) ∧ Below w.heap.size w w' := by
  have Hcell : Hid (∀ i, i < n → w.cell? (x.add i) = some (.int .u8 (zs.getD i 0))) := hcell
  have Hl : Hid (zs.length = n) := hl
  clear hcell hl
  go_enter Trym.func3, Trym.ntmps3
  go_wp2_with fail
  refine (bytes5_yes a0 a1 a2 (some x) n cap w (by omega)).mono ?_
  rintro e w' ⟨rfl, rfl⟩
  go_wp2_with fail
  refine (clone_some x n cap zs _ hn Hl.out Hcell.out).mono ?_
  rintro e w' ⟨rfl, rfl⟩
  go_wp2_with fail
  refine (zz_ret a0 a1 _ _ _ hr (conv_row zs n n _ _ Hl.out (fun i hi => by rw [World.cell?_alloc_at _ _ _ _ rfl]; exact rowOf_at _ _ (by rw [Hl.out]; exact hi)))).mono ?_
  rintro e w' ⟨rfl, rfl⟩
  go_wp2_with fail
  refine (zz_ret a0 a2 _ _ _ hr (conv_row zs n n _ _ Hl.out (fun i hi => by simp [go_sem, rowOf_at zs i (by rw [Hl.out]; exact hi)]))).mono ?_
  rintro e w' ⟨rfl, rfl⟩
  go_wp2_with fail
  refine (zz_ret a0 0 _ _ _ hr (conv_row zs n n _ _ Hl.out (fun i hi => by simp [go_sem, rowOf_at zs i (by rw [Hl.out]; exact hi)]))).mono ?_
  rintro e w' ⟨rfl, rfl⟩
  go_wp2_with fail
  go_quiet (fail)
  go_wp2
  go_ret
  exact ⟨rfl, below_drewN' (((((Below.refl _ _).alloc (Nat.le_refl _) _).alloc (by simp) _).alloc (by simp; omega) _).alloc (by simp; omega) _) _⟩
end Go.Proofs.Qxb6600646aMods

/-
  THE CONTRACTS OF hexValue (11) AND ZZhexValue (8): they compute 'hexV'.
-/
import Derived.Test.Qxb6600771aModsRows
import Derived.WalkKit
import Derived.WalkSpells
namespace Go.Proofs.Qxb6600771aMods
open Go.RowKit

/-- The value of a hexadecimal digit's byte, or -1. -/
def hexV (c : Int) : Int := if 48 ≤ c ∧ c ≤ 57 then c - 48 else if 97 ≤ c ∧ c ≤ 102 then c - 87 else if 65 ≤ c ∧ c ≤ 70 then c - 55 else -1

theorem ret_int {k : IntKind} {a b : Int} (h : a = b) : Ending.returned (.int k a) = .returned (.int k b) := by rw [h]

theorem hexValue_any (c : Int) (w : World) (h0 : 0 ≤ c) (h1 : c ≤ 255) :
    Calls Trym.prog 11 #[.int .u8 c] w fun e w' => e = .returned (.int .i64 (hexV c)) ∧ w' = w := by
  go_enter Trym.func11, Trym.ntmps11
  go_wp2
  all_goals
    go_ret
    exact ⟨ret_int (by unfold hexV; (repeat' split) <;> omega), rfl⟩

theorem zzHex_any (c : Int) (w : World) (h0 : 0 ≤ c) (h1 : c ≤ 255) :
    Calls Trym.prog 8 #[.int .u8 c] w fun e w' => e = .returned (.int .i64 (hexV c)) ∧ w' = w := by
  go_enter Trym.func8, Trym.ntmps8
  go_wp2_with fail
  refine (hexValue_any c w h0 h1).mono ?_
  rintro e w' ⟨rfl, rfl⟩
  go_wp2
  go_ret
  exact ⟨rfl, rfl⟩

/-! ### FnHexValueInvertsDigitWriting (5) -/
theorem inv_out (v : Int) (w : World) (h : v < 0 ∨ 15 < v) :
    Calls Trym.prog 5 #[.int .i64 v] w fun e w' => e = .returned (.bool true) ∧ w' = w := by
  rcases h with h | h
  · go_enter Trym.func5, Trym.ntmps5
    go_wp2
    go_ret
    exact ⟨rfl, rfl⟩
  · have h' : ¬ v < 0 := by omega
    go_enter Trym.func5, Trym.ntmps5
    go_wp2
    go_ret
    exact ⟨rfl, rfl⟩

/-- ZZhexValue at a byte whose value is known. -/
theorem zzHex_is (c r : Int) (w : World) (h0 : 0 ≤ c) (h1 : c ≤ 255) (h : hexV c = r) :
    Calls Trym.prog 8 #[.int .u8 c] w fun e w' => e = .returned (.int .i64 r) ∧ w' = w :=
  (zzHex_any c w h0 h1).mono fun _ _ ⟨he, hw⟩ => ⟨by rw [he, h], hw⟩

theorem inv_digit (v : Int) (w : World) (h0 : 0 ≤ v) (h1 : v < 10) :
    Calls Trym.prog 5 #[.int .i64 v] w fun e w' => e = .returned (.bool true) ∧ w' = w := by
  go_enter Trym.func5, Trym.ntmps5
  go_wp2_with fail
  refine (zzHex_is _ v _ (by omega) (by omega) (by unfold hexV; (repeat' split) <;> omega)).mono ?_
  rintro e w' ⟨rfl, rfl⟩
  go_wp2_with fail
  refine (zzHex_is _ v _ (by omega) (by omega) (by unfold hexV; (repeat' split) <;> omega)).mono ?_
  rintro e w' ⟨rfl, rfl⟩
  go_wp2
  go_ret
  exact ⟨rfl, rfl⟩

theorem inv_letter (v : Int) (w : World) (h0 : 10 ≤ v) (h1 : v ≤ 15) :
    Calls Trym.prog 5 #[.int .i64 v] w fun e w' => e = .returned (.bool true) ∧ w' = w := by
  go_enter Trym.func5, Trym.ntmps5
  go_wp2_with fail
  refine (zzHex_is _ v _ (by omega) (by omega) (by unfold hexV; (repeat' split) <;> omega)).mono ?_
  rintro e w' ⟨rfl, rfl⟩
  go_wp2_with fail
  refine (zzHex_is _ v _ (by omega) (by omega) (by unfold hexV; (repeat' split) <;> omega)).mono ?_
  rintro e w' ⟨rfl, rfl⟩
  go_wp2
  go_ret
  exact ⟨rfl, rfl⟩
end Go.Proofs.Qxb6600771aMods

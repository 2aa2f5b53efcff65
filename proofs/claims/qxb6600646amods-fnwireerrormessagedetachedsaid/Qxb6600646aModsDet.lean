/-
  THE WALKS OF FnWireErrorMessageDetached (4), a theorem a way.
-/
import Derived.Test.Qxb6600646aModsSame
namespace Go.Proofs.Qxb6600646aMods
open Go.RowKit

theorem det_far (a0 a1 : Int) (x : Option Addr) (n cap : Nat) (w : World) (hn : 1048576 < n) :
    Calls Trym.prog 4 #[.int .i32 a0, .int .i32 a1, .slice x n cap] w fun e w' => e = .returned (.bool true) ∧ Below w.heap.size w w' := by
  go_enter Trym.func4, Trym.ntmps4
  go_wp2_with fail
  refine (bytes8_no a0 a1 x n cap w hn).mono ?_
  rintro e w' ⟨rfl, rfl⟩
  go_wp2
  go_ret
  exact ⟨rfl, Below.refl _ _⟩

theorem det_zero (x : Option Addr) (n cap : Nat) (w : World) (hn : n ≤ 1048576) :
    Calls Trym.prog 4 #[.int .i32 0, .int .i32 0, .slice x n cap] w fun e w' => e = .returned (.bool true) ∧ Below w.heap.size w w' := by
  go_enter Trym.func4, Trym.ntmps4
  go_wp2_with fail
  refine (bytes8_yes 0 0 x n cap w hn).mono ?_
  rintro e w' ⟨rfl, rfl⟩
  go_wp2
  go_ret
  exact ⟨rfl, Below.refl _ _⟩

theorem below_drewN' {B : Nat} {a w : World} (h : Below B a w) (n : Nat) : Below B a (w.drewN n) := h.trans ⟨rfl, rfl, rfl, Nat.le_refl _, fun _ _ => rfl⟩

theorem rowOf_set (c : List Int) (k : Nat) (v : Int) : (rowOf c).setIfInBounds k (.int .u8 v) = rowOf (c.set k v) := by
  apply Array.toList_inj.1
  simp [rowOf]

/-- The text of a row of bytes, byte by byte. -/
theorem str_byte (zs : List Int) (hw : ∀ z ∈ zs, 0 ≤ z ∧ z ≤ 255) (k : Nat) (h : k < (strOfNums zs).size) : (((strOfNums zs)[k]'h).toNat : Int) = zs.getD k 0 := by
  have hk : k < zs.length := by rwa [strOfNums_size] at h
  have e : (strOfNums zs)[k]'h = UInt8.ofNat (zs[k]).toNat := by
    simp [strOfNums, ByteArray.getElem_eq_getElem_data]
  have hz := hw zs[k] (List.getElem_mem hk)
  rw [e, List.getD_eq_getElem?_getD, List.getElem?_eq_getElem hk]
  simp
  omega

set_option maxHeartbeats 400000 in
theorem det_nil (a0 a1 : Int) (w : World) (hr : a0 ≠ 0 ∨ (a0 = 0 ∧ a1 ≠ 0)) :
    Calls Trym.prog 4 #[.int .i32 a0, .int .i32 a1, .slice none 0 0] w fun e w' => e = .returned (.bool true) ∧ Below w.heap.size w w' := by
  have Hr : Hid (a0 ≠ 0 ∨ (a0 = 0 ∧ a1 ≠ 0)) := hr
  have h1 : (a0 == 0) = false ∨ ((a0 == 0) = true ∧ (a1 == 0) = false) := by simpa using hr
  clear hr
  rcases h1 with h1 | ⟨h1, h2⟩
  all_goals
    go_enter Trym.func4, Trym.ntmps4
    go_wp2_with fail
    refine (bytes8_yes a0 a1 none 0 0 w (by omega)).mono ?_
    rintro e w' ⟨rfl, rfl⟩
    go_wp2_with fail
    refine (clone_nil _).mono ?_
    rintro e w' ⟨rfl, rfl⟩
    go_wp2_with fail
    refine (clone_nil _).mono ?_
    rintro e w' ⟨rfl, rfl⟩
    go_wp2_with fail
    refine (zz_any a0 a1 _ _ _ Hr.out (conv_nil _)).mono ?_
    rintro e w' ⟨rfl, code, fw, rfl⟩
    go_wp2_with fail
    refine wp_loop_rounds 1 ?_
    rw [rounds_succ]
    go_wp2_with fail
    refine (same_nil _).mono ?_
    rintro e w' ⟨rfl, rfl⟩
    go_wp2
    go_ret
    exact ⟨rfl, (Below.refl _ _).alloc (Nat.le_refl _) _⟩

set_option maxHeartbeats 400000 in
theorem det_some (a0 a1 : Int) (x : Addr) (n cap : Nat) (zs : List Int) (w : World) (hn : n ≤ 1048576) (hl : zs.length = n)
    (hcell : ∀ i, i < n → w.cell? (x.add i) = some (.int .u8 (zs.getD i 0))) (hw : ∀ z ∈ zs, 0 ≤ z ∧ z ≤ 255) (hr : a0 ≠ 0 ∨ (a0 = 0 ∧ a1 ≠ 0)) :
    Calls Trym.prog 4 #[.int .i32 a0, .int .i32 a1, .slice (some x) n cap] w fun e w' => e = .returned (.bool true) ∧ Below w.heap.size w w' := by
  have Hr : Hid (a0 ≠ 0 ∨ (a0 = 0 ∧ a1 ≠ 0)) := hr
  have h1 : (a0 == 0) = false ∨ ((a0 == 0) = true ∧ (a1 == 0) = false) := by simpa using hr
  have Hcell : Hid (∀ i, i < n → w.cell? (x.add i) = some (.int .u8 (zs.getD i 0))) := hcell
  have Hl : Hid (zs.length = n) := hl
  have Hs : Hid ((strOfNums zs).size = n) := by rw [strOfNums_size]; exact hl
  have Hb : Hid (∀ k, (h : k < (strOfNums zs).size) → (((strOfNums zs)[k]'h).toNat : Int) = zs.getD k 0) := str_byte zs hw
  have Hat : Hid (∀ i, i < n → (rowOf zs)[i]? = some (.int .u8 (zs.getD i 0))) := fun i hi => rowOf_at zs i (by omega)
  clear hr hcell hl hw
  rcases h1 with h1 | ⟨h1, h2⟩
  all_goals
    go_enter Trym.func4, Trym.ntmps4
    go_wp2_with fail
    refine (bytes8_yes a0 a1 (some x) n cap w (by omega)).mono ?_
    rintro e w1 ⟨rfl, hw1⟩
    have hw1' := hw1.symm
    subst hw1'
    clear hw1
    go_wp2_with fail
    refine (clone_some x n cap zs _ hn Hl.out Hcell.out).mono ?_
    rintro e w' ⟨rfl, rfl⟩
    go_wp2_with fail
    refine (clone_some _ n n zs _ hn Hl.out (fun i hi => by rw [Go.WideShapes.add_plain, World.cell?_alloc_at _ _ _ _ rfl, Nat.zero_add]; exact Hat.out i hi)).mono ?_
    rintro e w' ⟨rfl, rfl⟩
    go_wp2_with fail
    refine (zz_any a0 a1 _ _ _ Hr.out (conv_row zs n n _ _ Hl.out (fun i hi => by rw [World.cell?_alloc_at _ _ _ _ (by simp)]; exact Hat.out i hi))).mono ?_
    rintro e w' ⟨rfl, code, fw, rfl⟩
    go_wp2_with fail
    go_loopw [9] (fun i wr => ∃ (k : Nat) (c : List Int), k ≤ n ∧ i = .int .i64 k ∧ c.length = n ∧ wr = ((w.alloc (.cells (rowOf zs) 5)).alloc (.cells (rowOf c) 5)).alloc (.cells #[.int .i32 code, .string (strOfNums zs), .bool fw] 28)) (fun i _ => n - (intOf i).toNat)
    case atStart => exact ⟨0, zs, Nat.zero_le _, rfl, Hl.out, rfl⟩
    case round =>
      obtain ⟨k, c, hk, rfl, hc, rfl⟩ := hrel
      have Hc : Hid (c.length = n) := hc
      by_cases hlt : k < n
      · have hp := rowOf_at c k (by omega)
        clear hc
        go_wp2
        go_roundw
        case rel => exact ⟨k + 1, c.set k _, by omega, by go_num, by simpa using Hc.out, by rw [rowOf_set]⟩
        case measure => simp [intOf]; omega
      · have : k = n := by omega
        subst this
        clear hc
        go_wp2_with fail
        refine (same_row (strOfNums zs) zs _ _ _ _ hn Hs.out Hb.out (fun i hi => by simp [go_sem, Hat.out i hi])).mono ?_
        rintro e w' ⟨rfl, m, rfl⟩
        go_wp2
        go_ret
        exact ⟨rfl, below_drewN' ((((Below.refl _ _).alloc (Nat.le_refl _) _).alloc (by simp) _).alloc (by simp; omega) _) _⟩
end Go.Proofs.Qxb6600646aMods

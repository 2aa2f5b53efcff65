/-
  THE CONTRACT OF hexModel (9): it computes 'hexV' too; and FnHexValueMatchesDigitTable (4).
-/
import Derived.Test.Qxb6600771aModsHex
namespace Go.Proofs.Qxb6600771aMods
open Go.RowKit

/-- The k-th byte of the two tables. -/
def lowN (k : Nat) : Int := if k < 10 then 48 + k else 87 + k
def upN (k : Nat) : Int := if k < 10 then 48 + k else 55 + k

theorem low_fin : ∀ k : Fin 16, (((⟨#[48, 49, 50, 51, 52, 53, 54, 55, 56, 57, 97, 98, 99, 100, 101, 102]⟩ : ByteArray)[k.val]'k.isLt).toNat : Int) = lowN k.val := by decide
theorem up_fin : ∀ k : Fin 16, (((⟨#[48, 49, 50, 51, 52, 53, 54, 55, 56, 57, 65, 66, 67, 68, 69, 70]⟩ : ByteArray)[k.val]'k.isLt).toNat : Int) = upN k.val := by decide

theorem hexV_at (k : Nat) (c : Int) (hk : k < 16) (h : lowN k = c ∨ upN k = c) : hexV c = k := by
  unfold lowN upN at h
  unfold hexV
  rcases h with h | h <;> subst h <;> (repeat' split) <;> omega

theorem hexV_no (c : Int) (h : ∀ j, j < 16 → lowN j ≠ c ∧ upN j ≠ c) : hexV c = -1 := by
  unfold hexV
  split
  · have := (h (c - 48).toNat (by omega)).1
    exact absurd (by unfold lowN; rw [if_pos (by omega)]; omega) this
  · split
    · have := (h (c - 87).toNat (by omega)).1
      exact absurd (by unfold lowN; rw [if_neg (by omega)]; omega) this
    · split
      · have := (h (c - 55).toNat (by omega)).2
        exact absurd (by unfold upN; rw [if_neg (by omega)]; omega) this
      · rfl

/-- None of the first k places holds c. -/
def Past (c : Int) (k : Nat) : Prop := ∀ j, j < k → lowN j ≠ c ∧ upN j ≠ c

theorem past_zero (c : Int) : Past c 0 := fun j hj => absurd hj (Nat.not_lt_zero j)
theorem past_succ (c : Int) (k : Nat) (h : Past c k) (h1 : lowN k ≠ c) (h2 : upN k ≠ c) : Past c (k + 1) := fun j hj => by
  rcases Nat.lt_or_ge j k with h' | h'
  · exact h j h'
  · have e : j = k := by omega
    subst e
    exact ⟨h1, h2⟩

set_option maxHeartbeats 400000 in
theorem hexModel_any (c : Int) (w : World) :
    Calls Trym.prog 9 #[.int .u8 c] w fun e w' => e = .returned (.int .i64 (hexV c)) ∧ w' = w := by
  go_enter Trym.func9, Trym.ntmps9
  go_wp2
  go_loop [5] (fun i => ∃ k : Nat, k ≤ 16 ∧ i = .int .i64 k ∧ Past c k) (fun i => 16 - (intOf i).toNat)
  case atStart => exact ⟨0, by omega, rfl, past_zero c⟩
  case round =>
    obtain ⟨k, hk, rfl, hp⟩ := hrel
    by_cases hlt : k < 16
    · have hlo := low_fin ⟨k, hlt⟩
      have hup := up_fin ⟨k, hlt⟩
      dsimp only at hlo hup
      by_cases h1 : lowN k = c
      · have H : Hid (hexV c = k) := hexV_at k c hlt (.inl h1)
        have t1 : (lowN k == c) = true := by simpa using h1
        clear h1 hp
        go_wp2
        go_ret
        exact ⟨ret_int H.out.symm, rfl⟩
      · have t1 : (lowN k == c) = false := by simpa using h1
        by_cases h2 : upN k = c
        · have H : Hid (hexV c = k) := hexV_at k c hlt (.inr h2)
          have t2 : (upN k == c) = true := by simpa using h2
          clear h1 h2 hp
          go_wp2
          go_ret
          exact ⟨ret_int H.out.symm, rfl⟩
        · have t2 : (upN k == c) = false := by simpa using h2
          have H : Hid (Past c (k + 1)) := past_succ c k hp h1 h2
          clear h1 h2 hp
          go_wp2
          go_round
          case rel => exact ⟨k + 1, by omega, by go_num, H.out⟩
          case measure => simp [intOf]; omega
    · have e : k = 16 := by omega
      subst e
      have H : Hid (hexV c = -1) := hexV_no c hp
      clear hp
      go_wp2
      go_ret
      exact ⟨ret_int H.out.symm, rfl⟩

/-! ### FnHexValueMatchesDigitTable (4) -/
theorem table_any (c : Int) (w : World) (h0 : 0 ≤ c) (h1 : c ≤ 255) :
    Calls Trym.prog 4 #[.int .u8 c] w fun e w' => e = .returned (.bool true) ∧ w' = w := by
  go_enter Trym.func4, Trym.ntmps4
  go_wp2_with fail
  refine (zzHex_any c _ h0 h1).mono ?_
  rintro e w' ⟨rfl, rfl⟩
  go_wp2_with fail
  refine (hexModel_any c _).mono ?_
  rintro e w' ⟨rfl, rfl⟩
  go_wp2
  go_ret
  exact ⟨rfl, rfl⟩
end Go.Proofs.Qxb6600771aMods

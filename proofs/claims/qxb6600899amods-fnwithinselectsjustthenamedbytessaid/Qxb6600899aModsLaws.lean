/-
  THE WALKS OF FnWithinAnswerIsTheCutsOfTheRange (3) AND FnWithinSelectsJustTheNamedBytes (4).
-/
import Derived.Test.Qxb6600899aModsParts
namespace Go.Proofs.Qxb6600899aMods
open Go.RowKit

theorem zzWithin_is (f t s a b : Int) (w : World) (h : Dom f t s) (ha : wStart f s = a) (hb : wEnd t s = b) :
    Calls Trym.prog 7 #[.int .i64 f, .int .i64 t, .int .i64 s] w fun e w' => e = .returned (.tuple #[.int .i64 a, .int .i64 b]) ∧ ∃ o m, w' = (w.alloc (.cells o 27)).drewN m := by
  subst ha hb
  exact zzWithin_any f t s w h

theorem grown_drewN {a w : World} (h : Grown a w) (n : Nat) : Grown a (w.drewN n) := by
  induction n generalizing w with
  | zero => exact h
  | succ n ih => exact ih h.drew

/-! ### the plain laws -/
theorem cut_from (f s : Int) : fromB (wStart f s) f s = true := by
  unfold fromB wStart; simp only [decide_eq_true_eq]; (repeat' split) <;> omega
theorem cut_from' (f s : Int) : fromB (wStart f s - 1) f s = false := by
  unfold fromB wStart; simp only [decide_eq_false_iff_not]; (repeat' split) <;> omega
theorem cut_to (t s : Int) : toB (wEnd t s - 1) t s = true := by
  unfold toB wEnd; simp only [decide_eq_true_eq]; (repeat' split) <;> omega
theorem cut_to' (t s : Int) (h : wEnd t s ≠ s) : toB (wEnd t s) t s = false := by
  unfold toB; unfold wEnd at h ⊢; simp only [decide_eq_false_iff_not]; (repeat' split at h) <;> (repeat' split) <;> omega
theorem cut_end (t s : Int) : wEnd t s ≤ s := by unfold wEnd; (repeat' split) <;> omega
theorem start_bd (f t s : Int) (h : Dom f t s) : -2305843009213693952 ≤ wStart f s ∧ wStart f s ≤ 2305843009213693952 := by
  unfold Dom at h; unfold wStart; split <;> omega
theorem end_bd (f t s : Int) (h : Dom f t s) : -2305843009213693952 ≤ wEnd t s := by
  unfold Dom at h; unfold wEnd; (repeat' split) <;> omega

/-! ### FnWithinAnswerIsTheCutsOfTheRange -/
theorem cuts_out (f t s : Int) (w : World) (h : ¬ Dom f t s) :
    Calls Trym.prog 3 #[.int .i64 f, .int .i64 t, .int .i64 s] w fun e w' => e = .returned (.bool true) ∧ Grown w w' := by
  go_enter Trym.func3, Trym.ntmps3
  go_wp2_with fail
  refine (dom_no f t s _ h).mono ?_
  rintro e w' ⟨rfl, rfl⟩
  go_wp2
  go_ret
  exact ⟨rfl, Grown.refl _⟩

set_option maxHeartbeats 400000 in
theorem cuts_in (f t s : Int) (w : World) (h : Dom f t s) :
    Calls Trym.prog 3 #[.int .i64 f, .int .i64 t, .int .i64 s] w fun e w' => e = .returned (.bool true) ∧ Grown w w' := by
  obtain ⟨a, ha⟩ : ∃ a, wStart f s = a := ⟨_, rfl⟩
  obtain ⟨b, hb⟩ : ∃ b, wEnd t s = b := ⟨_, rfl⟩
  have Ha : Hid (wStart f s = a) := ha
  have Hb : Hid (wEnd t s = b) := hb
  have Hd : Hid (Dom f t s) := h
  have k1 : Hid (fromB a f s = true) := by rw [← ha]; exact cut_from f s
  have k2 : Hid (fromB (a - 1) f s = false) := by rw [← ha]; exact cut_from' f s
  have k3 : Hid (toB (b - 1) t s = true) := by rw [← hb]; exact cut_to t s
  have k4 : Hid (b ≠ s → toB b t s = false) := by rw [← hb]; exact cut_to' t s
  have a1 : -2305843009213693952 ≤ a ∧ a ≤ 2305843009213693952 := by rw [← ha]; exact start_bd f t s h
  have b1 : -2305843009213693952 ≤ b := by rw [← hb]; exact end_bd f t s h
  have b2 : b ≤ s := by rw [← hb]; exact cut_end t s
  obtain ⟨a1, a2⟩ := a1
  have s1 : 0 ≤ s := h.2.2.1
  have s2 : s ≤ 2305843009213693952 := h.2.2.2
  clear ha hb h
  by_cases hbs : b = s
  · have hne : (b != s) = false := by simpa using hbs
    clear hbs
    go_enter Trym.func3, Trym.ntmps3
    go_wp2_with fail
    refine (dom_yes f t s _ Hd.out).mono ?_
    rintro e w' ⟨rfl, rfl⟩
    go_wp2_with fail
    refine (zzWithin_is f t s a b _ Hd.out Ha.out Hb.out).mono ?_
    rintro e w' ⟨rfl, o, m, rfl⟩
    go_wp2_with fail
    refine (fromOK_is a f s true _ (by omega) (by omega) s1 s2 k1.out).mono ?_
    rintro e w' ⟨rfl, rfl⟩
    go_wp2_with fail
    refine (fromOK_is (a - 1) f s false _ (by omega) (by omega) s1 s2 k2.out).mono ?_
    rintro e w' ⟨rfl, rfl⟩
    go_wp2_with fail
    refine (toOK_is (b - 1) t s true _ (by omega) (by omega) s1 s2 k3.out).mono ?_
    rintro e w' ⟨rfl, rfl⟩
    go_wp2
    go_ret
    exact ⟨rfl, grown_drewN ((Grown.refl _).alloc _ _) _⟩
  · have hne : (b != s) = true := by simpa using hbs
    have k5 : Hid (toB b t s = false) := k4.out hbs
    clear hbs
    go_enter Trym.func3, Trym.ntmps3
    go_wp2_with fail
    refine (dom_yes f t s _ Hd.out).mono ?_
    rintro e w' ⟨rfl, rfl⟩
    go_wp2_with fail
    refine (zzWithin_is f t s a b _ Hd.out Ha.out Hb.out).mono ?_
    rintro e w' ⟨rfl, o, m, rfl⟩
    go_wp2_with fail
    refine (fromOK_is a f s true _ (by omega) (by omega) s1 s2 k1.out).mono ?_
    rintro e w' ⟨rfl, rfl⟩
    go_wp2_with fail
    refine (fromOK_is (a - 1) f s false _ (by omega) (by omega) s1 s2 k2.out).mono ?_
    rintro e w' ⟨rfl, rfl⟩
    go_wp2_with fail
    refine (toOK_is (b - 1) t s true _ (by omega) (by omega) s1 s2 k3.out).mono ?_
    rintro e w' ⟨rfl, rfl⟩
    go_wp2_with fail
    refine (toOK_is b t s false _ (by omega) (by omega) s1 s2 k5.out).mono ?_
    rintro e w' ⟨rfl, rfl⟩
    go_wp2
    go_ret
    exact ⟨rfl, grown_drewN ((Grown.refl _).alloc _ _) _⟩

/-! ### FnWithinSelectsJustTheNamedBytes -/
theorem sel_from (f s i : Int) : fromB i f s = decide (wStart f s ≤ i) := by
  unfold fromB wStart; rw [decide_eq_decide]; (repeat' split) <;> omega
theorem sel_to (t s i : Int) (h : i < s) : toB i t s = decide (i < wEnd t s) := by
  unfold toB wEnd; rw [decide_eq_decide]; (repeat' split) <;> omega

theorem sel_out (f t s i : Int) (w : World) (h : ¬ Dom f t s) :
    Calls Trym.prog 4 #[.int .i64 f, .int .i64 t, .int .i64 s, .int .i64 i] w fun e w' => e = .returned (.bool true) ∧ Grown w w' := by
  go_enter Trym.func4, Trym.ntmps4
  go_wp2_with fail
  refine (dom_no f t s _ h).mono ?_
  rintro e w' ⟨rfl, rfl⟩
  go_wp2
  go_ret
  exact ⟨rfl, Grown.refl _⟩

theorem sel_far (f t s i : Int) (w : World) (h : Dom f t s) (hi : i < 0 ∨ (0 ≤ i ∧ s ≤ i)) :
    Calls Trym.prog 4 #[.int .i64 f, .int .i64 t, .int .i64 s, .int .i64 i] w fun e w' => e = .returned (.bool true) ∧ Grown w w' := by
  have Hd : Hid (Dom f t s) := h
  clear h
  rcases hi with hi | ⟨hi, hs⟩
  all_goals
    go_enter Trym.func4, Trym.ntmps4
    go_wp2_with fail
    refine (dom_yes f t s _ Hd.out).mono ?_
    rintro e w' ⟨rfl, rfl⟩
    go_wp2
    go_ret
    exact ⟨rfl, Grown.refl _⟩

set_option maxHeartbeats 400000 in
theorem sel_in (f t s i : Int) (w : World) (h : Dom f t s) (i1 : 0 ≤ i) (i2 : i < s) :
    Calls Trym.prog 4 #[.int .i64 f, .int .i64 t, .int .i64 s, .int .i64 i] w fun e w' => e = .returned (.bool true) ∧ Grown w w' := by
  obtain ⟨a, ha⟩ : ∃ a, wStart f s = a := ⟨_, rfl⟩
  obtain ⟨b, hb⟩ : ∃ b, wEnd t s = b := ⟨_, rfl⟩
  have Ha : Hid (wStart f s = a) := ha
  have Hb : Hid (wEnd t s = b) := hb
  have Hd : Hid (Dom f t s) := h
  have k1 : Hid (fromB i f s = decide (a ≤ i)) := by rw [← ha]; exact sel_from f s i
  have k2 : Hid (toB i t s = decide (i < b)) := by rw [← hb]; exact sel_to t s i i2
  have s1 : 0 ≤ s := h.2.2.1
  have s2 : s ≤ 2305843009213693952 := h.2.2.2
  clear ha hb h
  by_cases h1 : a ≤ i
  · have e1 : Hid (fromB i f s = true) := k1.out.trans (by simpa using h1)
    by_cases h2 : i < b
    · have e2 : Hid (toB i t s = true) := k2.out.trans (by simpa using h2)
      go_enter Trym.func4, Trym.ntmps4
      go_wp2_with fail
      refine (dom_yes f t s _ Hd.out).mono ?_
      rintro e w' ⟨rfl, rfl⟩
      go_wp2_with fail
      refine (zzWithin_is f t s a b _ Hd.out Ha.out Hb.out).mono ?_
      rintro e w' ⟨rfl, o, m, rfl⟩
      go_wp2_with fail
      refine (fromOK_is i f s true _ (by omega) (by omega) s1 s2 e1.out).mono ?_
      rintro e w' ⟨rfl, rfl⟩
      go_wp2_with fail
      refine (toOK_is i t s true _ (by omega) (by omega) s1 s2 e2.out).mono ?_
      rintro e w' ⟨rfl, rfl⟩
      go_wp2
      go_ret
      exact ⟨rfl, grown_drewN ((Grown.refl _).alloc _ _) _⟩
    · have e2 : Hid (toB i t s = false) := k2.out.trans (by simpa using h2)
      have h2' : decide (i < b) = false := by simpa using h2
      go_enter Trym.func4, Trym.ntmps4
      go_wp2_with fail
      refine (dom_yes f t s _ Hd.out).mono ?_
      rintro e w' ⟨rfl, rfl⟩
      go_wp2_with fail
      refine (zzWithin_is f t s a b _ Hd.out Ha.out Hb.out).mono ?_
      rintro e w' ⟨rfl, o, m, rfl⟩
      go_wp2_with fail
      refine (fromOK_is i f s true _ (by omega) (by omega) s1 s2 e1.out).mono ?_
      rintro e w' ⟨rfl, rfl⟩
      go_wp2_with fail
      refine (toOK_is i t s false _ (by omega) (by omega) s1 s2 e2.out).mono ?_
      rintro e w' ⟨rfl, rfl⟩
      go_wp2
      go_ret
      exact ⟨rfl, grown_drewN ((Grown.refl _).alloc _ _) _⟩
  · have e1 : Hid (fromB i f s = false) := k1.out.trans (by simpa using h1)
    have h1' : decide (a ≤ i) = false := by simpa using h1
    go_enter Trym.func4, Trym.ntmps4
    go_wp2_with fail
    refine (dom_yes f t s _ Hd.out).mono ?_
    rintro e w' ⟨rfl, rfl⟩
    go_wp2_with fail
    refine (zzWithin_is f t s a b _ Hd.out Ha.out Hb.out).mono ?_
    rintro e w' ⟨rfl, o, m, rfl⟩
    go_wp2_with fail
    refine (fromOK_is i f s false _ (by omega) (by omega) s1 s2 e1.out).mono ?_
    rintro e w' ⟨rfl, rfl⟩
    go_wp2
    go_ret
    exact ⟨rfl, grown_drewN ((Grown.refl _).alloc _ _) _⟩
end Go.Proofs.Qxb6600899aMods

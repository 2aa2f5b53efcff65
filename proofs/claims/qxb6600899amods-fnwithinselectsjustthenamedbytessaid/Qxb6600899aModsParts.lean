/-
  THE CONTRACTS OF zzWithinInDomain (6), zzFromOK (8), zzToOK (9), within (10), ZZWithin (7).
-/
import Derived.Test.Qxb6600899aModsRows
import Derived.WalkKit
import Derived.WalkSpells
import Derived.WalkLawsBesides
import Derived.Deep.QuietTactic
import Derived.BigQuiet
namespace Go.Proofs.Qxb6600899aMods
open Go.RowKit

/-- The inputs that the laws look at. -/
def Dom (f t s : Int) : Prop := (-2305843009213693952 ≤ f ∧ f ≤ 2305843009213693952) ∧ (-2305843009213693952 ≤ t ∧ t ≤ 2305843009213693952) ∧ (0 ≤ s ∧ s ≤ 2305843009213693952)

theorem dom_yes (f t s : Int) (w : World) (h : Dom f t s) :
    Calls Trym.prog 6 #[.int .i64 f, .int .i64 t, .int .i64 s] w fun e w' => e = .returned (.bool true) ∧ w' = w := by
  obtain ⟨⟨f1, f2⟩, ⟨t1, t2⟩, s1, s2⟩ := h
  go_enter Trym.func6, Trym.ntmps6
  go_wp2
  go_ret
  exact ⟨rfl, rfl⟩

theorem dom_no (f t s : Int) (w : World) (h : ¬ Dom f t s) :
    Calls Trym.prog 6 #[.int .i64 f, .int .i64 t, .int .i64 s] w fun e w' => e = .returned (.bool false) ∧ w' = w := by
  have h' : f < -2305843009213693952 ∨ (-2305843009213693952 ≤ f ∧ 2305843009213693952 < f) ∨
      ((-2305843009213693952 ≤ f ∧ f ≤ 2305843009213693952) ∧ (t < -2305843009213693952 ∨ (-2305843009213693952 ≤ t ∧ 2305843009213693952 < t) ∨
      ((-2305843009213693952 ≤ t ∧ t ≤ 2305843009213693952) ∧ (s < 0 ∨ (0 ≤ s ∧ 2305843009213693952 < s))))) := by unfold Dom at h; omega
  clear h
  rcases h' with h | ⟨h0, h⟩ | ⟨⟨f1, f2⟩, h | ⟨h0, h⟩ | ⟨⟨t1, t2⟩, h | ⟨h0, h⟩⟩⟩
  all_goals
    go_enter Trym.func6, Trym.ntmps6
    go_wp2
    go_ret
    exact ⟨rfl, rfl⟩

/-- Where the range's first cut falls. -/
def wStart (f s : Int) : Int := if f < 0 then f + s else f
/-- .. and its last. -/
def wEnd (t s : Int) : Int := if t < 0 then t + s + 1 else if t < s then t + 1 else s

theorem ret_two {k : IntKind} {a b c d : Int} (h : a = c) (h' : b = d) : Ending.returned (.tuple #[.int k a, .int k b]) = .returned (.tuple #[.int k c, .int k d]) := by rw [h, h']

set_option maxHeartbeats 400000 in
theorem within_any (f t s : Int) (w : World) (h : Dom f t s) :
    Calls Trym.prog 10 #[.agg #[.int .i64 f, .int .i64 t], .int .i64 s] w fun e w' => e = .returned (.tuple #[.int .i64 (wStart f s), .int .i64 (wEnd t s)]) ∧ ∃ o m, w' = (w.alloc (.cells o 27)).drewN m := by
  obtain ⟨⟨f1, f2⟩, ⟨t1, t2⟩, s1, s2⟩ := h
  have hf : f < 0 ∨ 0 ≤ f := by omega
  have ht : t < 0 ∨ (0 ≤ t ∧ t < s) ∨ (0 ≤ t ∧ s ≤ t) := by omega
  rcases hf with hf | hf <;> rcases ht with ht | ⟨ht, hs⟩ | ⟨ht, hs⟩
  all_goals
    go_enter Trym.func10, Trym.ntmps10
    go_wp2
    go_quiet (fail)
    go_wp2
    go_ret2
    exact ⟨ret_two (by unfold wStart; split <;> omega) (by unfold wEnd; (repeat' split) <;> omega), _, _, rfl⟩

set_option maxHeartbeats 400000 in
theorem zzWithin_any (f t s : Int) (w : World) (h : Dom f t s) :
    Calls Trym.prog 7 #[.int .i64 f, .int .i64 t, .int .i64 s] w fun e w' => e = .returned (.tuple #[.int .i64 (wStart f s), .int .i64 (wEnd t s)]) ∧ ∃ o m, w' = (w.alloc (.cells o 27)).drewN m := by
  go_enter Trym.func7, Trym.ntmps7
  go_wp2_with fail
  refine (within_any f t s _ h).mono ?_
  rintro e w' ⟨rfl, o, m, rfl⟩
  go_wp2
  go_ret2
  exact ⟨rfl, o, m, rfl⟩

/-- What zzFromOK and zzToOK answer. -/
def fromB (x f s : Int) : Bool := decide (f ≤ if 0 ≤ f then x else x - s)
def toB (x t s : Int) : Bool := decide ((if 0 ≤ t then x else x - s) ≤ t)

theorem ret_bool {a b : Bool} (h : a = b) : Ending.returned (.bool a) = .returned (.bool b) := by rw [h]

theorem fromOK_is (x f s : Int) (r : Bool) (w : World) (h1 : -4611686018427387904 ≤ x) (h2 : x ≤ 4611686018427387904) (s1 : 0 ≤ s) (s2 : s ≤ 2305843009213693952) (hr : fromB x f s = r) :
    Calls Trym.prog 8 #[.int .i64 x, .int .i64 f, .int .i64 s] w fun e w' => e = .returned (.bool r) ∧ w' = w := by
  subst hr
  have hf : 0 ≤ f ∨ f < 0 := by omega
  rcases hf with hf | hf
  all_goals
    go_enter Trym.func8, Trym.ntmps8
    go_wp2
    go_ret
    exact ⟨ret_bool (by unfold fromB; (repeat' split) <;> first | rfl | omega), rfl⟩

theorem toOK_is (x t s : Int) (r : Bool) (w : World) (h1 : -4611686018427387904 ≤ x) (h2 : x ≤ 4611686018427387904) (s1 : 0 ≤ s) (s2 : s ≤ 2305843009213693952) (hr : toB x t s = r) :
    Calls Trym.prog 9 #[.int .i64 x, .int .i64 t, .int .i64 s] w fun e w' => e = .returned (.bool r) ∧ w' = w := by
  subst hr
  have ht : 0 ≤ t ∨ t < 0 := by omega
  rcases ht with ht | ht
  all_goals
    go_enter Trym.func9, Trym.ntmps9
    go_wp2
    go_ret
    exact ⟨ret_bool (by unfold toB; (repeat' split) <;> first | rfl | omega), rfl⟩
end Go.Proofs.Qxb6600899aMods

/-
  ROWS THAT READ, zzb1Clone (6) OVER THEM, zzb1Same (13), zzBytes_.. (10).
-/
import Derived.Test.Qxb6601652aModsClone
import Derived.Deep.QuietTactic
import Derived.BigQuiet
namespace Go.Proofs.Qxb6601652aMods
open Go.RowKit

/-- A slice of int32 that reads: nil; or n cells that hold numbers. -/
def Row (w : World) (a : Option Addr) (n cap : Nat) : Prop :=
  (a = none ∧ n = 0 ∧ cap = 0) ∨ ∃ x, ∃ zs : List Int, a = some x ∧ zs.length = n ∧ ∀ i, i < n → w.cell? (x.add i) = some (.int .i32 (zs.getD i 0))

theorem Row.later {w w' : World} {a : Option Addr} {n cap : Nat} (h : Row w a n cap) (hb : Below w.heap.size w w') : Row w' a n cap := by
  rcases h with h | ⟨x, zs, ha, hz, hc⟩
  · exact .inl h
  · exact .inr ⟨x, zs, ha, hz, fun i hi => (hb.cell (cell_lt (hc i hi))).trans (hc i hi)⟩

theorem clone_any (a : Option Addr) (n cap : Nat) (w : World) (hn : n ≤ 4096) (h : Row w a n cap) :
    Calls Trym.prog 6 #[.slice a n cap] w fun e w' => ∃ a' c', e = .returned (.slice a' n c') ∧ Row w' a' n c' ∧ Below w.heap.size w w' := by
  rcases h with ⟨rfl, rfl, rfl⟩ | ⟨x, zs, rfl, hz, hc⟩
  · exact (clone_nil w).mono fun e w' ⟨he, hw⟩ => ⟨none, 0, he, .inl ⟨rfl, rfl, rfl⟩, by rw [hw]; exact Below.refl _ _⟩
  · refine (clone_some x n cap zs w hn hz hc).mono fun e w' ⟨he, hw⟩ => ⟨_, n, he, .inr ⟨_, zs, rfl, hz, fun i hi => ?_⟩, ?_⟩
    · rw [hw, Go.WideShapes.add_plain, World.cell?_alloc_at _ _ _ _ rfl, Nat.zero_add]
      exact rowOf_at zs i (by omega)
    · rw [hw]
      exact (Below.refl _ _).alloc (Nat.le_refl _) _

theorem same_nil (w : World) :
    Calls Trym.prog 13 #[.slice none 0 0, .slice none 0 0] w fun e w' => e = .returned (.bool true) ∧ ∃ m, w' = w.drewN m := by
  have hq := fun w => Lib.run_eql_slice_nil (P := Trym.prog) w 22 21 none 0 0 0 0 Trym.underlying22
  go_enter Trym.func13, Trym.ntmps13
  go_wp2
  refine wp_loop_rounds 1 ?_
  rw [rounds_succ]
  go_wp2
  go_ret
  exact ⟨rfl, 0, rfl⟩

set_option maxHeartbeats 400000 in
theorem same_rows (x y : Addr) (n c c' : Nat) (zs : List Int) (w : World) (hn : n ≤ 4096)
    (hx : ∀ i, i < n → w.cell? (x.add i) = some (.int .i32 (zs.getD i 0))) (hy : ∀ i, i < n → w.cell? (y.add i) = some (.int .i32 (zs.getD i 0))) :
    Calls Trym.prog 13 #[.slice (some x) n c, .slice (some y) n c'] w fun e w' => e = .returned (.bool true) ∧ ∃ m, w' = w.drewN m := by
  have hq := fun w => Lib.run_eql_slice_nil (P := Trym.prog) w 22 21 (some x) n c 0 0 Trym.underlying22
  have hq' := fun w => Lib.run_eql_slice_nil (P := Trym.prog) w 22 21 (some y) n c' 0 0 Trym.underlying22
  have Hx : Hid (0 < n → ∃ b off, x = ⟨b, off, none⟩ ∧ b < w.heap.size ∧ ∀ i, i < n → w.cell? ⟨b, off + i, none⟩ = some (.int .i32 (zs.getD i 0))) := fun h0 => plain_row h0 hx
  have Hy : Hid (0 < n → ∃ b off, y = ⟨b, off, none⟩ ∧ b < w.heap.size ∧ ∀ i, i < n → w.cell? ⟨b, off + i, none⟩ = some (.int .i32 (zs.getD i 0))) := fun h0 => plain_row h0 hy
  clear hx hy
  go_enter Trym.func13, Trym.ntmps13
  go_wp2
  go_loopw [5] (fun i wr => ∃ k m : Nat, k ≤ n ∧ i = .int .i64 k ∧ wr = w.drewN m) (fun i _ => n - (intOf i).toNat)
  case atStart => exact ⟨0, 0, Nat.zero_le _, rfl, rfl⟩
  case round =>
    obtain ⟨k, m, hk, rfl, rfl⟩ := hrel
    clear hq hq'
    by_cases hlt : k < n
    · obtain ⟨b, off, rfl, hb, hc⟩ := Hx.out (by omega)
      obtain ⟨b', off', rfl, hb', hc'⟩ := Hy.out (by omega)
      have h1 := hc k hlt
      have h2 := hc' k hlt
      clear hc hc' Hx Hy
      go_wp2
      go_quiet (fail)
      go_wp2
      go_roundw
      case rel => exact ⟨k + 1, _, by omega, by go_num, rfl⟩
      case measure => simp [intOf]; omega
    · have e : k = n := by omega
      subst e
      go_wp2
      go_ret
      exact ⟨rfl, _, rfl⟩

theorem same_self (a : Option Addr) (n c : Nat) (w : World) (hn : n ≤ 4096) (h : Row w a n c) :
    Calls Trym.prog 13 #[.slice a n c, .slice a n c] w fun e w' => e = .returned (.bool true) ∧ ∃ m, w' = w.drewN m := by
  rcases h with ⟨rfl, rfl, rfl⟩ | ⟨x, zs, rfl, hz, hc⟩
  · exact same_nil w
  · exact same_rows x x n c c zs w hn hc hc

set_option maxHeartbeats 400000 in
theorem bytes_any (x0 x1 x2 x3 : Option Addr) (n0 c0 n1 c1 n2 c2 n3 c3 : Nat) (a4 a5 a6 a7 a8 a9 : Int) (w : World) :
    Calls Trym.prog 10 #[.slice x0 n0 c0, .slice x1 n1 c1, .slice x2 n2 c2, .slice x3 n3 c3, .int .i32 a4, .int .i32 a5, .int .i32 a6, .int .i32 a7, .int .i32 a8, .int .i32 a9] w
      fun e w' => ∃ r, e = .returned (.bool r) ∧ w' = w := by
  go_enter Trym.func10, Trym.ntmps10
  go_wp2
  all_goals
    go_ret
    exact ⟨_, rfl, rfl⟩
end Go.Proofs.Qxb6601652aMods

/-
  THE CONTRACT OF sameBytes (9), and of ZZwireError (7) whichever code is set.
-/
import Derived.Test.Qxb6600646aModsWire
import Derived.Deep.QuietTactic
import Derived.BigQuiet
namespace Go.Proofs.Qxb6600646aMods
open Go.RowKit

theorem zz_any (ret fr : Int) (v : Value) (s : ByteArray) (w : World) (h : ret ≠ 0 ∨ (ret = 0 ∧ fr ≠ 0)) (hcv : (convert 22 9 v).run Trym.prog w = .ok (.string s) w) :
    Calls Trym.prog 7 #[.int .i32 ret, .int .i32 fr, v] w fun e w' => e = .returned (.pointer (some ⟨w.heap.size, 0, none⟩)) ∧ ∃ code fw, w' = w.alloc (.cells #[.int .i32 code, .string s, .bool fw] 28) := by
  rcases h with h | ⟨rfl, h⟩
  · exact (zz_ret ret fr v s w (by simpa using h) hcv).mono fun e w' ⟨he, hw⟩ => ⟨he, ret, true, hw⟩
  · exact (zz_fn fr v s w (by simpa using h) hcv).mono fun e w' ⟨he, hw⟩ => ⟨he, fr, false, hw⟩

theorem same_nil (w : World) :
    Calls Trym.prog 9 #[.string ByteArray.empty, .slice none 0 0] w fun e w' => e = .returned (.bool true) ∧ w' = w := by
  go_enter Trym.func9, Trym.ntmps9
  go_wp2
  refine wp_loop_rounds 1 ?_
  rw [rounds_succ]
  go_wp2
  go_ret
  exact ⟨rfl, rfl⟩

set_option maxHeartbeats 400000 in
theorem same_row (S : ByteArray) (zs : List Int) (n b cap : Nat) (w : World) (hn : n ≤ 1048576) (hs : S.size = n)
    (hb : ∀ k, (h : k < S.size) → ((S[k]'h).toNat : Int) = zs.getD k 0) (hc : ∀ i, i < n → w.cell? ⟨b, i, none⟩ = some (.int .u8 (zs.getD i 0))) :
    Calls Trym.prog 9 #[.string S, .slice (some ⟨b, 0, none⟩) n cap] w fun e w' => e = .returned (.bool true) ∧ ∃ m, w' = w.drewN m := by
  subst hs
  have Hb : Hid (∀ k, (h : k < S.size) → ((S[k]'h).toNat : Int) = zs.getD k 0) := hb
  have Hc : Hid (∀ i, i < S.size → w.cell? ⟨b, i, none⟩ = some (.int .u8 (zs.getD i 0))) := hc
  clear hb hc
  go_enter Trym.func9, Trym.ntmps9
  go_wp2
  go_loopw [5] (fun i wr => ∃ k m : Nat, k ≤ S.size ∧ i = .int .i64 k ∧ wr = w.drewN m) (fun i _ => S.size - (intOf i).toNat)
  case atStart => exact ⟨0, 0, Nat.zero_le _, rfl, rfl⟩
  case round =>
    obtain ⟨k, m, hk, rfl, rfl⟩ := hrel
    by_cases hlt : k < S.size
    · have hb := Hb.out k hlt
      have hc := Hc.out k hlt
      go_wp2
      go_quiet (fail)
      go_wp2
      go_roundw
      case rel => exact ⟨k + 1, _, by omega, by go_num, rfl⟩
      case measure => simp [intOf]; omega
    · have : k = S.size := by omega
      subst this
      go_wp2
      go_ret
      exact ⟨rfl, _, rfl⟩
end Go.Proofs.Qxb6600646aMods

/-
  THE CONTRACTS OF wireError (10) AND ZZwireError (7): a new block with the code, the message and the mark.
-/
import Derived.Test.Qxb6600646aModsClone
namespace Go.Proofs.Qxb6600646aMods
open Go.RowKit

theorem wire_ret (ret fr : Int) (v : Value) (s : ByteArray) (w : World) (h : (ret == 0) = false) (hcv : (convert 22 9 v).run Trym.prog w = .ok (.string s) w) :
    Calls Trym.prog 10 #[.int .i32 ret, .int .i32 fr, v] w fun e w' => e = .returned (.pointer (some ⟨w.heap.size, 0, none⟩)) ∧ w' = w.alloc (.cells #[.int .i32 ret, .string s, .bool true] 28) := by
  go_enter Trym.func10, Trym.ntmps10
  go_wp2
  go_ret
  exact ⟨rfl, rfl⟩

theorem wire_fn (fr : Int) (v : Value) (s : ByteArray) (w : World) (h : (fr == 0) = false) (hcv : (convert 22 9 v).run Trym.prog w = .ok (.string s) w) :
    Calls Trym.prog 10 #[.int .i32 0, .int .i32 fr, v] w fun e w' => e = .returned (.pointer (some ⟨w.heap.size, 0, none⟩)) ∧ w' = w.alloc (.cells #[.int .i32 fr, .string s, .bool false] 28) := by
  go_enter Trym.func10, Trym.ntmps10
  go_wp2
  go_ret
  exact ⟨rfl, rfl⟩

theorem zz_ret (ret fr : Int) (v : Value) (s : ByteArray) (w : World) (h : (ret == 0) = false) (hcv : (convert 22 9 v).run Trym.prog w = .ok (.string s) w) :
    Calls Trym.prog 7 #[.int .i32 ret, .int .i32 fr, v] w fun e w' => e = .returned (.pointer (some ⟨w.heap.size, 0, none⟩)) ∧ w' = w.alloc (.cells #[.int .i32 ret, .string s, .bool true] 28) := by
  go_enter Trym.func7, Trym.ntmps7
  go_wp2_with fail
  refine (wire_ret ret fr v s w h hcv).mono ?_
  rintro e w' ⟨rfl, rfl⟩
  go_wp2
  go_ret
  exact ⟨rfl, rfl⟩

theorem zz_fn (fr : Int) (v : Value) (s : ByteArray) (w : World) (h : (fr == 0) = false) (hcv : (convert 22 9 v).run Trym.prog w = .ok (.string s) w) :
    Calls Trym.prog 7 #[.int .i32 0, .int .i32 fr, v] w fun e w' => e = .returned (.pointer (some ⟨w.heap.size, 0, none⟩)) ∧ w' = w.alloc (.cells #[.int .i32 fr, .string s, .bool false] 28) := by
  go_enter Trym.func7, Trym.ntmps7
  go_wp2_with fail
  refine (wire_fn fr v s w h hcv).mono ?_
  rintro e w' ⟨rfl, rfl⟩
  go_wp2
  go_ret
  exact ⟨rfl, rfl⟩

/-- 'string(b)' of a clone. -/
theorem conv_row (zs : List Int) (n cap b : Nat) (W : World) (hz : zs.length = n) (hc : ∀ i, i < n → W.cell? ⟨b, i, none⟩ = some (.int .u8 (zs.getD i 0))) :
    (convert 22 9 (.slice (some ⟨b, 0, none⟩) n cap)).run Trym.prog W = .ok (.string (strOfNums zs)) W :=
  run_convert_bytes_arg W 22 5 Trym.underlying22 Trym.underlying5 b 0 n cap zs hz (fun i hi => by rw [Nat.zero_add]; exact hc i hi) 9 Trym.underlying9

theorem conv_nil (W : World) : (convert 22 9 (.slice none 0 0)).run Trym.prog W = .ok (.string ByteArray.empty) W :=
  run_convert_bytes_nil W 22 5 Trym.underlying22 Trym.underlying5 0 0 9 Trym.underlying9
end Go.Proofs.Qxb6600646aMods

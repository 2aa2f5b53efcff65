/-
  THE CONTRACT OF zzb1Clone (6).
-/
import Derived.Test.Qxb6601652aModsRows
import Derived.WalkKit
import Derived.WalkSpells
import Derived.Lib.SliceRun
import Derived.Deep.OwnRows
namespace Go.Proofs.Qxb6601652aMods
open Go.RowKit

theorem Trym.info21 : (Trym.prog.info? 21).map (fun i => (i.zero, i.size, i.bytes)) = some (some (.int .i32 0), 1, 4) := by kernel_rfl

/-- What a clone of n numbers holds behind k rounds. -/
def part (zs : List Int) (n k : Nat) : Array Value := ((zs.take k).map (Value.int .i32) ++ List.replicate (n - k) (Value.int .i32 0)).toArray

theorem part_zero (zs : List Int) (n : Nat) : madeCells #[Value.int .i32 0] n = part zs n 0 := by
  apply Array.toList_inj.1
  rw [toList_madeCells_one]
  simp [part]

theorem part_size (zs : List Int) (n k : Nat) (hk : k ≤ n) (hz : n ≤ zs.length) : (part zs n k).size = n := by
  simp [part]; omega

theorem part_at (zs : List Int) (n k : Nat) (hk : k < n) (hz : n ≤ zs.length) : (part zs n k)[k]? = some (.int .i32 0) := by
  simp only [part, List.getElem?_toArray]
  rw [List.getElem?_append_right (by simp; omega), List.getElem?_replicate, if_pos (by simp; omega)]

/-- A cell that reads lies in a block that is there. -/
theorem cell_lt {w : World} {a : Addr} {v : Value} (h : w.cell? a = some v) : a.block < w.heap.size := by
  rcases Nat.lt_or_ge a.block w.heap.size with h' | h'
  · exact h'
  · simp [World.cell?, Array.getElem?_eq_none h'] at h

/-- A row of at least one cell: its address is a plain one, in a block that is there. -/
theorem plain_row {w : World} {x : Addr} {n : Nat} {f : Nat → Value} (h0 : 0 < n) (h : ∀ i, i < n → w.cell? (x.add i) = some (f i)) :
    ∃ b off, x = ⟨b, off, none⟩ ∧ b < w.heap.size ∧ ∀ i, i < n → w.cell? ⟨b, off + i, none⟩ = some (f i) := by
  obtain ⟨b, off, spot⟩ := x
  have hspot : spot = none := by simpa [Addr.add] using World.cell?_spot (h 0 h0)
  subst hspot
  have hp : ∀ i, i < n → w.cell? ⟨b, off + i, none⟩ = some (f i) := fun i hi => by
    have := h i hi
    rwa [show (⟨b, off, none⟩ : Addr).add i = ⟨b, off + i, none⟩ from by unfold Addr.add; split <;> simp_all] at this
  exact ⟨b, off, rfl, cell_lt (hp 0 h0), hp⟩

theorem part_succ (zs : List Int) (n k : Nat) (hk : k < n) (hz : n ≤ zs.length) : (part zs n k).setIfInBounds k (.int .i32 (zs.getD k 0)) = part zs n (k + 1) := by
  apply Array.toList_inj.1
  apply List.ext_getElem?
  intro j
  simp only [part, Array.toList_setIfInBounds, List.getElem?_set]
  rcases Nat.lt_trichotomy j k with h | h | h
  · rw [if_neg (by omega), List.getElem?_append_left (by simp; omega), List.getElem?_append_left (by simp; omega)]
    simp [h, show j < k + 1 by omega]
  · subst h
    rw [if_pos rfl, if_pos (by simp; omega), List.getElem?_append_left (by simp; omega)]
    have : j < zs.length := by omega
    simp [this]
  · rw [if_neg (by omega), List.getElem?_append_right (by simp; omega), List.getElem?_append_right (by simp; omega)]
    simp only [List.getElem?_replicate, List.length_map, List.length_take]
    by_cases hj : j < n
    · rw [if_pos (by omega), if_pos (by omega)]
    · rw [if_neg (by omega), if_neg (by omega)]

/-- The cells of a row of bytes. -/
def rowOf (zs : List Int) : Array Value := (zs.map (Value.int .i32)).toArray

theorem rowOf_at (zs : List Int) (i : Nat) (h : i < zs.length) : (rowOf zs)[i]? = some (.int .i32 (zs.getD i 0)) := by
  simp [rowOf, h]

theorem part_all (zs : List Int) (n : Nat) (hz : zs.length = n) : part zs n n = rowOf zs := by
  subst hz
  simp [part, rowOf]

/-- What came in, its first n numbers alone. -/
theorem take_cells {w : World} {x : Addr} {n : Nat} {zs : List Int} (h : ∀ i, i < n → w.cell? (x.add i) = some (.int .i32 (zs.getD i 0))) :
    ∀ i, i < n → w.cell? (x.add i) = some (.int .i32 ((zs.take n).getD i 0)) := fun i hi => by
  rw [h i hi]
  simp [hi]

/-- zzb1Clone(nil) -/
theorem clone_nil (w : World) :
    Calls Trym.prog 6 #[.slice none 0 0] w fun e w' => e = .returned (.slice none 0 0) ∧ w' = w := by
  have hq := fun w => Lib.run_eql_slice_nil (P := Trym.prog) w 22 21 none 0 0 0 0 Trym.underlying22
  go_enter Trym.func6, Trym.ntmps6
  go_wp2
  go_ret
  exact ⟨rfl, rfl⟩

set_option maxHeartbeats 400000 in
/-- zzb1Clone(b), b not nil: a new block with b's first n numbers. -/
theorem clone_some (x : Addr) (n cap : Nat) (zs : List Int) (w : World) (hn : n ≤ 4096) (hl : zs.length = n)
    (hcell : ∀ i, i < n → w.cell? (x.add i) = some (.int .i32 (zs.getD i 0))) :
    Calls Trym.prog 6 #[.slice (some x) n cap] w fun e w' => e = .returned (.slice (some ⟨w.heap.size, 0, none⟩) n n) ∧ w' = w.alloc (.cells (rowOf zs) 21) := by
  rw [← part_all zs n hl]
  have hz : n ≤ zs.length := by omega
  clear hl
  have hmk := run_make_row' (P := Trym.prog) 22 21 (.int .i32 0) 4 Trym.underlying22 Trym.info21 rfl .i64 .i64 n (by omega) (by omega) w
  rw [part_zero zs n] at hmk
  have hq := fun w => Lib.run_eql_slice_nil (P := Trym.prog) w 22 21 (some x) n cap 0 0 Trym.underlying22
  have hrow : 0 < n → ∃ b off, x = ⟨b, off, none⟩ ∧ b < w.heap.size ∧ ∀ i, i < n → w.cell? ⟨b, off + i, none⟩ = some (.int .i32 (zs.getD i 0)) := fun h0 => plain_row h0 hcell
  clear hcell
  go_enter Trym.func6, Trym.ntmps6
  go_wp2
  go_loopw [4] (fun i wr => ∃ k : Nat, k ≤ n ∧ i = .int .i64 k ∧ wr = w.alloc (.cells (part zs n k) 21)) (fun i _ => n - (intOf i).toNat)
  case atStart => exact ⟨0, Nat.zero_le _, rfl, rfl⟩
  case round =>
    obtain ⟨k, hk, rfl, rfl⟩ := hrel
    by_cases hlt : k < n
    · obtain ⟨b, off, rfl, hb, hcell⟩ := hrow (by omega)
      have hc0 := hcell k hlt
      have hp := part_at zs n k hlt hz
      have hs := part_succ zs n k hlt hz
      rw [List.getD_eq_getElem?_getD] at hs
      have HS : Hid ((part zs n k).setIfInBounds k (.int .i32 (zs[k]?.getD 0)) = part zs n (k + 1)) := hs
      clear hs hcell hmk hq hrow
      go_wp2
      go_roundw
      case rel => exact ⟨k + 1, by omega, by go_num, by rw [HS.out]⟩
      case measure => simp [intOf]; omega
    · have : k = n := by omega
      subst this
      go_wp2
      go_ret
      exact ⟨rfl, rfl⟩
end Go.Proofs.Qxb6601652aMods

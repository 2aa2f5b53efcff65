/-
  THE CONTRACTS OF zzb1Part (7), Recovered (11), zzb1SamePart (9).
-/
import Derived.Test.Qxb6601652aModsRowed
namespace Go.Proofs.Qxb6601652aMods
open Go.RowKit

set_option maxHeartbeats 400000 in
theorem part_any (v0 v1 v2 v3 : Option Addr) (n0 c0 n1 c1 n2 c2 n3 c3 : Nat) (a4 a5 a6 a7 a8 : Int) (w : World) :
    Calls Trym.prog 7 #[.slice v0 n0 c0, .slice v1 n1 c1, .slice v2 n2 c2, .slice v3 n3 c3, .int .i32 a4, .int .i32 a5, .int .i32 a6, .int .i32 a7, .int .i32 a8] w fun e w' =>
      e = .returned (.agg #[.slice v0 n0 c0, .slice v1 n1 c1, .slice v2 n2 c2, .slice v3 n3 c3, .int .i32 a4, .int .i32 a5, .int .i32 a6, .int .i32 a7, .int .i32 a8]) ∧ Below w.heap.size w w' := by
  go_enter Trym.func7, Trym.ntmps7
  go_wp2
  refine bodyPost_ret (v := .agg #[.slice v0 n0 c0, .slice v1 n1 c1, .slice v2 n2 c2, .slice v3 n3 c3, .int .i32 a4, .int .i32 a5, .int .i32 a6, .int .i32 a7, .int .i32 a8]) (by simp [results, Trym.results7, go_sem]) rfl ⟨rfl, ?_⟩
  exact (Below.refl _ _).alloc (Nat.le_refl _) _

set_option maxHeartbeats 400000 in
theorem rec_any (v0 v1 v2 v3 : Option Addr) (n0 c0 n1 c1 n2 c2 n3 c3 : Nat) (a4 a5 a6 a7 a8 l le : Int) (w : World) (hle : wrap32 (a5 + 1) = le) :
    Calls Trym.prog 11 #[.agg #[.slice v0 n0 c0, .slice v1 n1 c1, .slice v2 n2 c2, .slice v3 n3 c3, .int .i32 a4, .int .i32 a5, .int .i32 a6, .int .i32 a7, .int .i32 a8], .int .i32 l] w fun e w' =>
      ∃ g, e = .returned (.agg #[.slice v0 n0 c0, .slice (some ⟨g, 0, none⟩) 1 1, .slice none 0 0, .slice none 0 0, .int .i32 l, .int .i32 le, .int .i32 (-1), .int .i32 le, .int .i32 a8]) ∧
      w'.cell? ⟨g, 0, none⟩ = some (.int .i32 l) ∧ Below w.heap.size w w' := by
  go_enter Trym.func11, Trym.ntmps11
  go_wp2
  refine bodyPost_ret (v := .agg #[.slice v0 n0 c0, .slice (some ⟨w.heap.size + 1 + 1 + 1, 0, none⟩) 1 1, .slice none 0 0, .slice none 0 0, .int .i32 l, .int .i32 le, .int .i32 (-1), .int .i32 le, .int .i32 a8])
    (by simp [results, Trym.results11, go_sem]) rfl ⟨_, rfl, ?_, ?_⟩
  · simp [go_sem]
  · exact ((((Below.refl _ _).alloc (Nat.le_refl _) _).alloc (by simp) _).alloc (by simp; omega) _).alloc (by simp; omega) _

theorem below_drewN' {B : Nat} {a w : World} (h : Below B a w) (n : Nat) : Below B a (w.drewN n) := h.trans ⟨rfl, rfl, rfl, Nat.le_refl _, fun _ _ => rfl⟩

theorem one_row {w : World} {g : Nat} {l : Int} (h : w.cell? ⟨g, 0, none⟩ = some (.int .i32 l)) : ∀ i, i < 1 → w.cell? ((⟨g, 0, none⟩ : Addr).add i) = some (.int .i32 ([l].getD i 0)) := fun i hi => by
  have e : i = 0 := by omega
  subst e
  rw [Go.WideShapes.add_plain]
  exact h

set_option maxHeartbeats 400000 in
theorem samePart_any (a : Option Addr) (n c g h : Nat) (l le lk re pe : Int) (w : World) (hn : n ≤ 4096) (hr : Row w a n c)
    (hg : w.cell? ⟨g, 0, none⟩ = some (.int .i32 l)) (hh : w.cell? ⟨h, 0, none⟩ = some (.int .i32 l)) :
    Calls Trym.prog 9 #[.agg #[.slice a n c, .slice (some ⟨g, 0, none⟩) 1 1, .slice none 0 0, .slice none 0 0, .int .i32 l, .int .i32 le, .int .i32 lk, .int .i32 re, .int .i32 pe],
      .agg #[.slice a n c, .slice (some ⟨h, 0, none⟩) 1 1, .slice none 0 0, .slice none 0 0, .int .i32 l, .int .i32 le, .int .i32 lk, .int .i32 re, .int .i32 pe]] w fun e w' =>
      e = .returned (.bool true) ∧ Below w.heap.size w w' := by
  have Hr : Hid (∀ w', Below w.heap.size w w' → Row w' a n c) := fun w' hb => hr.later hb
  have Hg : Hid (∀ w', Below w.heap.size w w' → w'.cell? ⟨g, 0, none⟩ = some (.int .i32 l)) := fun w' hb => (hb.cell (cell_lt hg)).trans hg
  have Hh : Hid (∀ w', Below w.heap.size w w' → w'.cell? ⟨h, 0, none⟩ = some (.int .i32 l)) := fun w' hb => (hb.cell (cell_lt hh)).trans hh
  clear hr hg hh
  go_enter Trym.func9, Trym.ntmps9
  go_wp2_with fail
  refine (same_self a n c _ hn (Hr.out _ (((Below.refl _ _).alloc (Nat.le_refl _) _).alloc (by simp) _))).mono ?_
  rintro e w' ⟨rfl, m1, rfl⟩
  go_wp2_with fail
  refine (same_rows _ _ 1 1 1 [l] _ (by omega) (one_row (Hg.out _ (below_drewN' (((Below.refl _ _).alloc (Nat.le_refl _) _).alloc (by simp) _) _))) (one_row (Hh.out _ (below_drewN' (((Below.refl _ _).alloc (Nat.le_refl _) _).alloc (by simp) _) _)))).mono ?_
  rintro e w' ⟨rfl, m2, rfl⟩
  go_wp2_with fail
  refine (same_nil _).mono ?_
  rintro e w' ⟨rfl, m3, rfl⟩
  go_wp2_with fail
  refine (same_nil _).mono ?_
  rintro e w' ⟨rfl, m4, rfl⟩
  go_wp2
  go_ret
  exact ⟨rfl, below_drewN' (((Below.refl _ _).alloc (Nat.le_refl _) _).alloc (by simp) _) _⟩
end Go.Proofs.Qxb6601652aMods

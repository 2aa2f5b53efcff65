/-
  THE WALKS OF FnRecoveredTwiceOnlyAdvancesEpoch (4).
-/
import Derived.Test.Qxb6601652aModsRec
namespace Go.Proofs.Qxb6601652aMods
open Go.RowKit

set_option maxHeartbeats 400000 in
theorem law_far (x0 x1 x2 x3 : Option Addr) (n0 c0 n1 c1 n2 c2 n3 c3 : Nat) (a4 a5 a6 a7 a8 a9 : Int) (w : World)
    (h : 4096 < n0 ∨ (n0 ≤ 4096 ∧ 4096 < n1) ∨ (n0 ≤ 4096 ∧ n1 ≤ 4096 ∧ 4096 < n2) ∨ (n0 ≤ 4096 ∧ n1 ≤ 4096 ∧ n2 ≤ 4096 ∧ 4096 < n3)) :
    Calls Trym.prog 4 #[.slice x0 n0 c0, .slice x1 n1 c1, .slice x2 n2 c2, .slice x3 n3 c3, .int .i32 a4, .int .i32 a5, .int .i32 a6, .int .i32 a7, .int .i32 a8, .int .i32 a9] w
      fun e w' => e = .returned (.bool true) ∧ Below w.heap.size w w' := by
  rcases h with h | ⟨h0, h⟩ | ⟨h0, h1, h⟩ | ⟨h0, h1, h2, h⟩
  all_goals
    go_enter Trym.func4, Trym.ntmps4
    go_wp2_with fail
    refine (bytes_any x0 x1 x2 x3 n0 c0 n1 c1 n2 c2 n3 c3 a4 a5 a6 a7 a8 a9 _).mono ?_
    rintro e w' ⟨r, rfl, rfl⟩
    cases r
    all_goals
      go_wp2
      go_ret
      exact ⟨rfl, Below.refl _ _⟩

theorem two_new (w : World) (o o' : Obj) : Below w.heap.size w ((w.alloc o).alloc o') := ((Below.refl _ _).alloc (Nat.le_refl _) _).alloc (by simp) _

/-! ### the plain laws: int32's arithmetic -/
theorem step_one (a b : Int) (ha : -2147483648 ≤ a ∧ a ≤ 2147483647) (h : wrap32 (a + 1) = b) : -2147483648 ≤ b ∧ b ≤ 2147483647 ∧ wrap32 (b - a) = 1 ∧ (a ≤ 2147483646 → b = a + 1) := by
  unfold wrap32 at *
  omega

set_option maxHeartbeats 1000000 in
theorem law_near (x0 x1 x2 x3 : Option Addr) (n0 c0 n1 c1 n2 c2 n3 c3 : Nat) (a4 a5 a6 a7 a8 a9 b d : Int) (w : World) (h0 : n0 ≤ 4096) (h1 : n1 ≤ 4096) (h2 : n2 ≤ 4096) (h3 : n3 ≤ 4096)
    (r0 : Row w x0 n0 c0) (r1 : Row w x1 n1 c1) (r2 : Row w x2 n2 c2) (r3 : Row w x3 n3 c3) (eb : wrap32 (a5 + 1) = b) (ed : wrap32 (b + 1) = d)
    (t1 : (wrap32 (b - a5) != 1) = false) (t2 : (wrap32 (d - b) != 1) = false) (t3 : 2147483645 < a5 ∨ (a5 ≤ 2147483645 ∧ a5 < b ∧ b < d)) :
    Calls Trym.prog 4 #[.slice x0 n0 c0, .slice x1 n1 c1, .slice x2 n2 c2, .slice x3 n3 c3, .int .i32 a4, .int .i32 a5, .int .i32 a6, .int .i32 a7, .int .i32 a8, .int .i32 a9] w
      fun e w' => e = .returned (.bool true) ∧ Below w.heap.size w w' := by
  have R0 : Hid (Row w x0 n0 c0) := r0
  have R1 : Hid (Row w x1 n1 c1) := r1
  have R2 : Hid (Row w x2 n2 c2) := r2
  have R3 : Hid (Row w x3 n3 c3) := r3
  have Eb : Hid (wrap32 (a5 + 1) = b) := eb
  have Ed : Hid (wrap32 (b + 1) = d) := ed
  have T3 : Hid (2147483645 < a5 ∨ (a5 ≤ 2147483645 ∧ a5 < b ∧ b < d)) := t3
  clear r0 r1 r2 r3 eb ed t3
  go_enter Trym.func4, Trym.ntmps4
  go_wp2_with fail
  refine (bytes_any x0 x1 x2 x3 n0 c0 n1 c1 n2 c2 n3 c3 a4 a5 a6 a7 a8 a9 _).mono ?_
  rintro e w1 ⟨r, rfl, hw1⟩
  have hw1' := hw1.symm
  subst hw1'
  clear hw1
  cases r
  · go_wp2
    go_ret
    exact ⟨rfl, Below.refl _ _⟩
  go_wp2_with fail
  refine (clone_any x0 n0 c0 _ h0 R0.out).mono ?_
  rintro e w1 ⟨y0, k0, rfl, q0, b1⟩
  have B1 : Hid (Below w.heap.size w w1) := b1
  have Q0 : Hid (Row w1 y0 n0 k0) := q0
  clear b1 q0
  go_wp2_with fail
  refine (clone_any x1 n1 c1 _ h1 (R1.out.later B1.out)).mono ?_
  rintro e w2 ⟨y1, k1, rfl, _, b2⟩
  have B2 : Hid (Below w.heap.size w w2) := B1.out.trans (b2.mono B1.out.size)
  have Q1 : Hid (Row w2 y0 n0 k0) := Q0.out.later b2
  clear b2 Q0 B1
  go_wp2_with fail
  refine (clone_any x2 n2 c2 _ h2 (R2.out.later B2.out)).mono ?_
  rintro e w3 ⟨y2, k2, rfl, _, b3⟩
  have B3 : Hid (Below w.heap.size w w3) := B2.out.trans (b3.mono B2.out.size)
  have Q2 : Hid (Row w3 y0 n0 k0) := Q1.out.later b3
  clear b3 Q1 B2
  go_wp2_with fail
  refine (clone_any x3 n3 c3 _ h3 (R3.out.later B3.out)).mono ?_
  rintro e w4 ⟨y3, k3, rfl, _, b4⟩
  have B4 : Hid (Below w.heap.size w w4) := B3.out.trans (b4.mono B3.out.size)
  have Q3 : Hid (Row w4 y0 n0 k0) := Q2.out.later b4
  clear b4 Q2 B3
  go_wp2_with fail
  refine (part_any y0 y1 y2 y3 n0 k0 n1 k1 n2 k2 n3 k3 a4 a5 a6 a7 a8 _).mono ?_
  rintro e w5 ⟨rfl, b5⟩
  have B5 : Hid (Below w.heap.size w w5) := B4.out.trans (b5.mono B4.out.size)
  have Q4 : Hid (Row w5 y0 n0 k0) := Q3.out.later b5
  clear b5 Q3 B4
  go_wp2_with fail
  refine (rec_any y0 y1 y2 y3 n0 k0 n1 k1 n2 k2 n3 k3 a4 a5 a6 a7 a8 a9 b _ Eb.out).mono ?_
  rintro e w6 ⟨g, rfl, hg, b6⟩
  have B6 : Hid (Below w.heap.size w w6) := (B5.out.alloc B5.out.size _).trans (b6.mono (by have := B5.out.size; simp; omega))
  have Q5 : Hid (Row w6 y0 n0 k0) := (Q4.out.later ((Below.refl _ _).alloc (Nat.le_refl _) _)).later b6
  have G : Hid (w6.cell? ⟨g, 0, none⟩ = some (.int .i32 a9)) := hg
  clear b6 hg Q4 B5
  go_wp2_with fail
  refine (rec_any y0 (some ⟨g, 0, none⟩) none none n0 k0 1 1 0 0 0 0 a9 b (-1) b a8 a9 d _ Ed.out).mono ?_
  rintro e w7 ⟨h, rfl, hh, b7⟩
  have B7 : Hid (Below w.heap.size w w7) := (B6.out.alloc B6.out.size _).trans (b7.mono (by have := B6.out.size; simp; omega))
  have Q6 : Hid (Row w7 y0 n0 k0) := (Q5.out.later ((Below.refl _ _).alloc (Nat.le_refl _) _)).later b7
  have G' : Hid (w7.cell? ⟨g, 0, none⟩ = some (.int .i32 a9)) := by
    have hlt : g < w6.heap.size := cell_lt G.out
    exact (b7.cell (show g < _ by simp; omega)).trans (by rw [World.cell?_alloc_past _ _ _ hlt]; exact G.out)
  have H' : Hid (w7.cell? ⟨h, 0, none⟩ = some (.int .i32 a9)) := hh
  have hz : w6.heap.size < w7.heap.size := by have := b7.size; simp at this; omega
  have o0 : w7.cell? ⟨w6.heap.size, 0, none⟩ = some (.slice y0 n0 k0) := (b7.cell (by simp)).trans (by simp [go_sem])
  have o1 : w7.cell? ⟨w6.heap.size, 1, none⟩ = some (.slice (some ⟨g, 0, none⟩) 1 1) := (b7.cell (by simp)).trans (by simp [go_sem])
  have o2 : w7.cell? ⟨w6.heap.size, 2, none⟩ = some (.slice none 0 0) := (b7.cell (by simp)).trans (by simp [go_sem])
  have o3 : w7.cell? ⟨w6.heap.size, 3, none⟩ = some (.slice none 0 0) := (b7.cell (by simp)).trans (by simp [go_sem])
  have o4 : w7.cell? ⟨w6.heap.size, 4, none⟩ = some (.int .i32 a9) := (b7.cell (by simp)).trans (by simp [go_sem])
  have o5 : w7.cell? ⟨w6.heap.size, 5, none⟩ = some (.int .i32 b) := (b7.cell (by simp)).trans (by simp [go_sem])
  have o6 : w7.cell? ⟨w6.heap.size, 6, none⟩ = some (.int .i32 (-1)) := (b7.cell (by simp)).trans (by simp [go_sem])
  have o7 : w7.cell? ⟨w6.heap.size, 7, none⟩ = some (.int .i32 b) := (b7.cell (by simp)).trans (by simp [go_sem])
  have o8 : w7.cell? ⟨w6.heap.size, 8, none⟩ = some (.int .i32 a8) := (b7.cell (by simp)).trans (by simp [go_sem])
  clear b7 hh Q5 B6 G
  rcases T3.out with t | ⟨t, t', t''⟩
  all_goals
    go_wp2_with fail
    refine (samePart_any y0 n0 k0 g h a9 d (-1) d a8 _ h0 (Q6.out.later (two_new _ _ _)) (((two_new _ _ _).cell (cell_lt G'.out)).trans G'.out) (((two_new _ _ _).cell (cell_lt H'.out)).trans H'.out)).mono ?_
    rintro e w8 ⟨rfl, b8⟩
    have B8 : Hid (Below w.heap.size w w8) := (B7.out.trans ((two_new _ _ _).mono B7.out.size)).trans (b8.mono (by have := B7.out.size; simp; omega))
    clear b8
    go_wp2
    go_ret
    exact ⟨rfl, B8.out⟩

theorem law_in (x0 x1 x2 x3 : Option Addr) (n0 c0 n1 c1 n2 c2 n3 c3 : Nat) (a4 a5 a6 a7 a8 a9 : Int) (w : World) (h0 : n0 ≤ 4096) (h1 : n1 ≤ 4096) (h2 : n2 ≤ 4096) (h3 : n3 ≤ 4096)
    (r0 : Row w x0 n0 c0) (r1 : Row w x1 n1 c1) (r2 : Row w x2 n2 c2) (r3 : Row w x3 n3 c3) (ha : -2147483648 ≤ a5 ∧ a5 ≤ 2147483647) :
    Calls Trym.prog 4 #[.slice x0 n0 c0, .slice x1 n1 c1, .slice x2 n2 c2, .slice x3 n3 c3, .int .i32 a4, .int .i32 a5, .int .i32 a6, .int .i32 a7, .int .i32 a8, .int .i32 a9] w
      fun e w' => e = .returned (.bool true) ∧ Below w.heap.size w w' := by
  obtain ⟨b, hb⟩ : ∃ b, wrap32 (a5 + 1) = b := ⟨_, rfl⟩
  obtain ⟨d, hd⟩ : ∃ d, wrap32 (b + 1) = d := ⟨_, rfl⟩
  obtain ⟨b1, b2, b3, b4⟩ := step_one a5 b ha hb
  obtain ⟨d1, d2, d3, d4⟩ := step_one b d ⟨b1, b2⟩ hd
  exact law_near x0 x1 x2 x3 n0 c0 n1 c1 n2 c2 n3 c3 a4 a5 a6 a7 a8 a9 b d w h0 h1 h2 h3 r0 r1 r2 r3 hb hd (by rw [b3]; rfl) (by rw [d3]; rfl) (by omega)
end Go.Proofs.Qxb6601652aMods

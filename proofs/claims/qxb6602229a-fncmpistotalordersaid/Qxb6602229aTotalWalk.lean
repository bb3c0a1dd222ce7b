import Derived.Test.Qxb6602229aCmp
import Derived.Test.Qxb6602229aEq
namespace Go.Proofs.Qxb6602229a
open Go.ChangeShapes Go.WideShapes Go.ChangeAt Go.RowKit

/-- Where the three IDs lie. -/
def Own (N : Nat) (a0 a1 a2 b0 b1 b2 c0 c1 c2 : Int) (w : World) : Prop :=
  w.cell? ⟨N + 1, 0, none⟩ = some (.int .u64 a0) ∧ w.cell? ⟨N + 1, 1, none⟩ = some (.int .u64 a1) ∧ w.cell? ⟨N + 1, 2, none⟩ = some (.int .u64 a2) ∧
  w.cell? ⟨N + 3, 0, none⟩ = some (.int .u64 b0) ∧ w.cell? ⟨N + 3, 1, none⟩ = some (.int .u64 b1) ∧ w.cell? ⟨N + 3, 2, none⟩ = some (.int .u64 b2) ∧
  w.cell? ⟨N + 5, 0, none⟩ = some (.int .u64 c0) ∧ w.cell? ⟨N + 5, 1, none⟩ = some (.int .u64 c1) ∧ w.cell? ⟨N + 5, 2, none⟩ = some (.int .u64 c2) ∧ N + 6 ≤ w.heap.size
theorem Own.grown {N : Nat} {a0 a1 a2 b0 b1 b2 c0 c1 c2 : Int} {w w' : World} (h : Own N a0 a1 a2 b0 b1 b2 c0 c1 c2 w) (g : Grown w w') : Own N a0 a1 a2 b0 b1 b2 c0 c1 c2 w' := by
  obtain ⟨h1, h2, h3, h4, h5, h6, h7, h8, h9, hs⟩ := h
  exact ⟨(grown_cell g (show N + 1 < _ by omega)).trans h1, (grown_cell g (show N + 1 < _ by omega)).trans h2, (grown_cell g (show N + 1 < _ by omega)).trans h3,
    (grown_cell g (show N + 3 < _ by omega)).trans h4, (grown_cell g (show N + 3 < _ by omega)).trans h5, (grown_cell g (show N + 3 < _ by omega)).trans h6,
    (grown_cell g (show N + 5 < _ by omega)).trans h7, (grown_cell g (show N + 5 < _ by omega)).trans h8, (grown_cell g (show N + 5 < _ by omega)).trans h9, Nat.le_trans hs g.2.2⟩

theorem own_start (a0 a1 a2 b0 b1 b2 c0 c1 c2 : Int) (w : World) (x y z : Array Value) :
    Own w.heap.size a0 a1 a2 b0 b1 b2 c0 c1 c2 ((((((w.alloc (.cells x 25)).alloc (.cells #[.int .u64 a0, .int .u64 a1, .int .u64 a2] 25)).alloc (.cells y 25)).alloc (.cells #[.int .u64 b0, .int .u64 b1, .int .u64 b2] 25)).alloc (.cells z 25)).alloc (.cells #[.int .u64 c0, .int .u64 c1, .int .u64 c2] 25)) := by
  refine ⟨?_, ?_, ?_, ?_, ?_, ?_, ?_, ?_, ?_, ?_⟩ <;> simp [go_sem, World.cell?_alloc_past]

set_option maxHeartbeats 2000000 in
theorem total_core (a0 a1 a2 b0 b1 b2 c0 c1 c2 : Int) (ab bc ac : Int) (w : World)
    (hab : cmp3 a0 a1 a2 b0 b1 b2 = ab) (hba : cmp3 b0 b1 b2 a0 a1 a2 = -ab) (hbc : cmp3 b0 b1 b2 c0 c1 c2 = bc) (hac : cmp3 a0 a1 a2 c0 c1 c2 = ac)
    (h01 : -1 ≤ ab) (h02 : ab ≤ 1) (heq0 : decide (a0 = b0 ∧ a1 = b1 ∧ a2 = b2) = (ab == 0)) (ht : ac ≤ 0 ∨ 0 < ab ∨ 0 < bc) (ht' : 0 ≤ ac ∨ ab < 0 ∨ bc < 0) :
    Calls Try.prog 4 #[.int .u64 a0, .int .u64 a1, .int .u64 a2, .int .u64 b0, .int .u64 b1, .int .u64 b2, .int .u64 c0, .int .u64 c1, .int .u64 c2] w fun e w' => e = .returned (.bool true) ∧ Grown w w' := by
  have A1 : ∀ w, _ := fun w => cmp_as hab w
  have A2 : ∀ w, _ := fun w => cmp_as hba w
  have A3 : ∀ w, _ := fun w => cmp_as hbc w
  have A4 : ∀ w, _ := fun w => cmp_as hac w
  have A5 : ∀ w, _ := fun w => cmp_as (cmp3_self a0 a1 a2) w
  have H1 : Hid _ := A1; have H2 : Hid _ := A2; have H3 : Hid _ := A3; have H4 : Hid _ := A4; have H5 : Hid _ := A5
  have heq := fun w => eq_id a0 a1 a2 b0 b1 b2 w
  rw [heq0] at heq
  have HT : Hid _ := And.intro ht ht'
  clear A1 A2 A3 A4 A5 hab hba hbc hac heq0 ht ht'
  go_enter Try.func4, Try.ntmps4
  go_wp2_with (go_at_call 10; refine (newID _ _ _ _).mono ?_; rintro e w' ⟨rfl, c, rfl⟩)
  refine (H1.out _).mono ?_
  rintro e w1 ⟨rfl, hg1⟩
  have O1 := (own_start a0 a1 a2 b0 b1 b2 c0 c1 c2 w _ _ _).grown hg1
  have G1 : Grown w w1 := grown_trans (by repeat (first | exact Grown.refl _ | apply Grown.alloc)) hg1
  clear hg1
  have I1 := O1
  obtain ⟨h1, h2, h3, h4, h5, h6, h7, h8, h9, hs⟩ := O1
  go_wp2_with fail
  refine (H2.out _).mono ?_
  rintro e w2 ⟨rfl, hg2⟩
  have O2 := I1.grown hg2
  have G2 := grown_trans G1 hg2
  clear hg2 I1 G1 h1 h2 h3 h4 h5 h6 h7 h8 h9 hs
  have I2 := O2
  obtain ⟨h1, h2, h3, h4, h5, h6, h7, h8, h9, hs⟩ := O2
  go_wp2_with fail
  refine (H3.out _).mono ?_
  rintro e w3 ⟨rfl, hg3⟩
  have O3 := I2.grown hg3
  have G3 := grown_trans G2 hg3
  clear hg3 I2 G2 h1 h2 h3 h4 h5 h6 h7 h8 h9 hs
  have I3 := O3
  obtain ⟨h1, h2, h3, h4, h5, h6, h7, h8, h9, hs⟩ := O3
  go_wp2_with fail
  refine (H4.out _).mono ?_
  rintro e w4 ⟨rfl, hg4⟩
  have O4 := I3.grown hg4
  have G4 := grown_trans G3 hg4
  clear hg4 I3 G3 h1 h2 h3 h4 h5 h6 h7 h8 h9 hs
  have I4 := O4
  obtain ⟨h1, h2, h3, h4, h5, h6, h7, h8, h9, hs⟩ := O4
  go_wp2_with fail
  refine (H5.out _).mono ?_
  rintro e w5 ⟨rfl, hg5⟩
  have O5 := I4.grown hg5
  have G5 := grown_trans G4 hg5
  clear hg5 I4 G4 h1 h2 h3 h4 h5 h6 h7 h8 h9 hs
  obtain ⟨h1, h2, h3, h4, h5, h6, h7, h8, h9, hs⟩ := O5
  obtain ⟨ht, ht'⟩ := HT.out
  go_wp2
  all_goals (go_ret; exact ⟨rfl, G5⟩)

theorem total_law (a0 a1 a2 b0 b1 b2 c0 c1 c2 : Int) (w : World) :
    Calls Try.prog 4 #[.int .u64 a0, .int .u64 a1, .int .u64 a2, .int .u64 b0, .int .u64 b1, .int .u64 b2, .int .u64 c0, .int .u64 c1, .int .u64 c2] w fun e w' => e = .returned (.bool true) ∧ Grown w w' := by
  have h3 := cmp3_three a0 a1 a2 b0 b1 b2
  have hz := cmp3_zero a0 a1 a2 b0 b1 b2
  have t1 := cmp3_trans a0 a1 a2 b0 b1 b2 c0 c1 c2
  have t2 := cmp3_trans' a0 a1 a2 b0 b1 b2 c0 c1 c2
  refine total_core a0 a1 a2 b0 b1 b2 c0 c1 c2 _ _ _ w rfl (cmp3_neg _ _ _ _ _ _) rfl rfl (by omega) (by omega) ?_ (by omega) (by omega)
  rw [Bool.eq_iff_iff]
  simp [hz]
end Go.Proofs.Qxb6602229a

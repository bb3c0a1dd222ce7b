import Derived.Test.Qxb6602229aCmp
namespace Go.Proofs.Qxb6602229a
open Go.ChangeShapes Go.WideShapes Go.ChangeAt Go.RowKit

theorem or_zero {x y : Int} (hx : 0 ≤ x ∧ x < 18446744073709551616) (hy : 0 ≤ y ∧ y < 18446744073709551616) :
    (bits .or .u64 x y = 0 ↔ x = 0 ∧ y = 0) ∧ 0 ≤ bits .or .u64 x y ∧ bits .or .u64 x y < 18446744073709551616 := by
  obtain ⟨a, rfl⟩ := Int.eq_ofNat_of_zero_le hx.1
  obtain ⟨b, rfl⟩ := Int.eq_ofNat_of_zero_le hy.1
  have ha : a < 18446744073709551616 := by omega
  have hb : b < 18446744073709551616 := by omega
  rw [bits_or_u64_nat a b ha hb]
  have hl : a ||| b < 2 ^ 64 := Nat.or_lt_two_pow (by omega) (by omega)
  have l1 : a ≤ a ||| b := Nat.left_le_or
  have l2 : b ≤ a ||| b := Nat.right_le_or
  refine ⟨⟨fun h => ⟨by omega, by omega⟩, fun h => ?_⟩, by omega, by omega⟩
  obtain ⟨h1, h2⟩ := h
  have e1 : a = 0 := by omega
  have e2 : b = 0 := by omega
  simp [e1, e2]

theorem or3 {x y z : Int} {c : Bool} (h : (bits .or .u64 (bits .or .u64 x y) z == 0) = c) (hx : 0 ≤ x ∧ x < 18446744073709551616) (hy : 0 ≤ y ∧ y < 18446744073709551616) (hz : 0 ≤ z ∧ z < 18446744073709551616) :
    (x = 0 ∧ y = 0 ∧ z = 0) ↔ c = true := by
  obtain ⟨e1, b1⟩ := or_zero hx hy
  obtain ⟨e2, b2⟩ := or_zero b1 hz
  rw [← h]
  simp [e2, e1, and_assoc]

theorem or3_true {x y z : Int} (h : (bits .or .u64 (bits .or .u64 x y) z == 0) = true) (hx : 0 ≤ x ∧ x < 18446744073709551616) (hy : 0 ≤ y ∧ y < 18446744073709551616) (hz : 0 ≤ z ∧ z < 18446744073709551616) :
    x = 0 ∧ y = 0 ∧ z = 0 := (or3 h hx hy hz).2 rfl
theorem or3_false {x y z : Int} (h : (bits .or .u64 (bits .or .u64 x y) z == 0) = false) (hx : 0 ≤ x ∧ x < 18446744073709551616) (hy : 0 ≤ y ∧ y < 18446744073709551616) (hz : 0 ≤ z ∧ z < 18446744073709551616) :
    ¬ (x = 0 ∧ y = 0 ∧ z = 0) := fun e => by have := (or3 h hx hy hz).1 e; simp at this

theorem cmp3_one (a0 a1 a2 b0 b1 b2 : Int) : cmp3 a0 a1 a2 b0 b1 b2 = 1 ↔ (b2 < a2 ∨ a2 = b2 ∧ (b1 < a1 ∨ a1 = b1 ∧ b0 < a0)) := by
  unfold cmp3
  repeat' split
  all_goals omega
theorem cmp3_neg_one (a0 a1 a2 b0 b1 b2 : Int) : cmp3 a0 a1 a2 b0 b1 b2 = -1 ↔ (a2 < b2 ∨ a2 = b2 ∧ (a1 < b1 ∨ a1 = b1 ∧ a0 < b0)) := by
  unfold cmp3
  repeat' split
  all_goals omega

set_option maxHeartbeats 4000000 in
theorem sub_walk (a0 a1 a2 b0 b1 b2 : Int) (w : World) (h : 0 ≤ a0 ∧ a0 ≤ 18446744073709551615 ∧ 0 ≤ a1 ∧ a1 ≤ 18446744073709551615 ∧ 0 ≤ a2 ∧ a2 ≤ 18446744073709551615 ∧ 0 ≤ b0 ∧ b0 ≤ 18446744073709551615 ∧ 0 ≤ b1 ∧ b1 ≤ 18446744073709551615 ∧ 0 ≤ b2 ∧ b2 ≤ 18446744073709551615) :
    Calls Try.prog 12 #[.int .u64 a0, .int .u64 a1, .int .u64 a2, .int .u64 b0, .int .u64 b1, .int .u64 b2] w fun e w' => e = .returned (.int .i64 (cmp3 a0 a1 a2 b0 b1 b2)) ∧ w' = w := by
  obtain ⟨g1, g2, g3, g4, g5, g6, g7, g8, g9, g10, g11, g12⟩ := h
  go_enter Try.func12, Try.ntmps12
  go_wp2
  all_goals
    go_ret
    refine ⟨ret_int ?_, rfl⟩
    first
    | exact ((cmp3_neg_one _ _ _ _ _ _).2 (by omega)).symm
    | (have H := or3_false (by assumption) (by first | omega | (simp only [IntKind.wrap_u64]; omega)) (by first | omega | (simp only [IntKind.wrap_u64]; omega)) (by first | omega | (simp only [IntKind.wrap_u64]; omega))
       first
       | exact ((cmp3_one _ _ _ _ _ _).2 (by omega)).symm
       | (simp only [IntKind.wrap_u64] at H; exact ((cmp3_one _ _ _ _ _ _).2 (by omega)).symm))
    | (have H := or3_true (by assumption) (by first | omega | (simp only [IntKind.wrap_u64]; omega)) (by first | omega | (simp only [IntKind.wrap_u64]; omega)) (by first | omega | (simp only [IntKind.wrap_u64]; omega))
       first
       | exact ((cmp3_zero _ _ _ _ _ _).2 (by omega)).symm
       | (exfalso; omega)
       | (exfalso; simp only [IntKind.wrap_u64] at H; omega))

set_option maxHeartbeats 2000000 in
theorem sub_law (a0 a1 a2 b0 b1 b2 : Int) (w : World) (h : 0 ≤ a0 ∧ a0 ≤ 18446744073709551615 ∧ 0 ≤ a1 ∧ a1 ≤ 18446744073709551615 ∧ 0 ≤ a2 ∧ a2 ≤ 18446744073709551615 ∧ 0 ≤ b0 ∧ b0 ≤ 18446744073709551615 ∧ 0 ≤ b1 ∧ b1 ≤ 18446744073709551615 ∧ 0 ≤ b2 ∧ b2 ≤ 18446744073709551615) :
    Calls Try.prog 3 #[.int .u64 a0, .int .u64 a1, .int .u64 a2, .int .u64 b0, .int .u64 b1, .int .u64 b2] w fun e w' => e = .returned (.bool true) ∧ Grown w w' := by
  have S : ∀ w, _ := fun w => sub_walk a0 a1 a2 b0 b1 b2 w h
  have C : ∀ w, _ := fun w => cmp_walk a0 a1 a2 b0 b1 b2 w
  revert S C
  generalize cmp3 a0 a1 a2 b0 b1 b2 = x
  intro S0 C0
  have S : Hid _ := S0
  have C : Hid _ := C0
  clear S0 C0 h
  go_enter Try.func3, Try.ntmps3
  go_wp2_with (go_at_call 10; refine (newID _ _ _ _).mono ?_; rintro e w' ⟨rfl, c, rfl⟩)
  refine (C.out _).mono ?_
  rintro e w1 ⟨rfl, hg1⟩
  have G1 : Grown w w1 := grown_trans (by repeat (first | exact Grown.refl _ | apply Grown.alloc)) hg1
  clear hg1
  go_wp2_with fail
  refine (S.out _).mono ?_
  rintro e w2 ⟨rfl, rfl⟩
  go_wp2
  go_ret
  exact ⟨rfl, G1⟩
end Go.Proofs.Qxb6602229a

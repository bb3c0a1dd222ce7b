import Derived.Test.Qxb6602229aFromBytes
namespace Go.Proofs.Qxb6602229a
open Go.ChangeShapes Go.WideShapes Go.ChangeAt Go.RowKit Plain

/-! ### The plain law: the order of the bytes is the order of the numbers -/
theorem be_lt (xs ys : List Int) (hx : ∀ k : Nat, 0 ≤ xs[k]?.getD 0 ∧ xs[k]?.getD 0 ≤ 255) (hy : ∀ k : Nat, 0 ≤ ys[k]?.getD 0 ∧ ys[k]?.getD 0 ≤ 255) (m n : Nat) (h : be xs 0 m < be ys 0 m) : be xs 0 (m + n) < be ys 0 (m + n) := by
  rw [be_add, be_add]
  have a := be_range xs hx (0 + m) n
  have b := be_range ys hy (0 + m) n
  have c : (be xs 0 m + 1) * 256 ^ n ≤ be ys 0 m * 256 ^ n := Int.mul_le_mul_of_nonneg_right (by omega) (Int.le_of_lt (pow_pos n))
  rw [Int.add_mul, Int.one_mul] at c
  omega
/-- What lexCompare answers. -/
def sgn (a b : Int) : Int := if a < b then -1 else if b < a then 1 else 0
def lexV (xs ys : List Int) : Int := sgn (be xs 0 24) (be ys 0 24)
theorem lex_step (xs ys : List Int) (k : Nat) (h : be xs 0 k = be ys 0 k) : be xs 0 (k + 1) = be ys 0 (k + 1) + (zb xs k - zb ys k) := by
  rw [be, be, h]
  unfold zb
  simp only [Nat.zero_add]
  omega
theorem lex_lt (xs ys : List Int) (hx : ∀ k : Nat, 0 ≤ xs[k]?.getD 0 ∧ xs[k]?.getD 0 ≤ 255) (hy : ∀ k : Nat, 0 ≤ ys[k]?.getD 0 ∧ ys[k]?.getD 0 ≤ 255) (k : Nat) (hk : k < 24) (he : be xs 0 k = be ys 0 k) (h : zb xs k < zb ys k) : -1 = lexV xs ys := by
  have s := lex_step xs ys k he
  have l := be_lt xs ys hx hy (k + 1) (23 - k) (by omega)
  rw [show k + 1 + (23 - k) = 24 by omega] at l
  unfold lexV sgn
  rw [if_pos l]
theorem lex_gt (xs ys : List Int) (hx : ∀ k : Nat, 0 ≤ xs[k]?.getD 0 ∧ xs[k]?.getD 0 ≤ 255) (hy : ∀ k : Nat, 0 ≤ ys[k]?.getD 0 ∧ ys[k]?.getD 0 ≤ 255) (k : Nat) (hk : k < 24) (he : be xs 0 k = be ys 0 k) (h : zb ys k < zb xs k) : 1 = lexV xs ys := by
  have s := lex_step xs ys k he
  have l := be_lt ys xs hy hx (k + 1) (23 - k) (by omega)
  rw [show k + 1 + (23 - k) = 24 by omega] at l
  unfold lexV sgn
  rw [if_neg (by omega), if_pos l]
theorem lex_eq (xs ys : List Int) (he : be xs 0 24 = be ys 0 24) : 0 = lexV xs ys := by
  unfold lexV sgn
  rw [if_neg (by omega), if_neg (by omega)]

set_option maxHeartbeats 1000000 in
/-- lexCompare. -/
theorem lex_walk (xs ys : List Int) (w : World) (hlx : xs.length = 24) (hly : ys.length = 24) (hx : ∀ k : Nat, 0 ≤ xs[k]?.getD 0 ∧ xs[k]?.getD 0 ≤ 255) (hy : ∀ k : Nat, 0 ≤ ys[k]?.getD 0 ∧ ys[k]?.getD 0 ≤ 255) :
    Calls Try.prog 16 #[.agg (bytesV xs), .agg (bytesV ys)] w fun e w' => e = .returned (.int .i64 (lexV xs ys)) ∧ Grown w w' := by
  have HX : Hid _ := hx
  have HY : Hid _ := hy
  have LX : Hid _ := hlx
  have LY : Hid _ := hly
  have hgr : ∀ n, Grown w (((w.alloc (.cells (bytesV xs) 31)).alloc (.cells (bytesV ys) 31)).drewN n) := fun n => grown_drewN (((Grown.refl _).alloc _ _).alloc _ _) n
  have HG : Hid _ := hgr
  clear hx hy hlx hly hgr
  go_enter Try.func16, Try.ntmps16
  go_wp2
  go_loopg [5] 24 (fun g i wr => ∃ k : Nat, k ≤ 24 ∧ 24 ≤ g + k ∧ i = .int .i64 k ∧ Aside (be xs 0 k = be ys 0 k) ∧ ∃ n, wr = ((w.alloc (.cells (bytesV xs) 31)).alloc (.cells (bytesV ys) 31)).drewN n)
  case atStart => exact ⟨0, by omega, by omega, rfl, rfl, 0, rfl⟩
  case round =>
    obtain ⟨k, hk, hg, rfl, he, n, rfl⟩ := hrel
    by_cases h0 : k < 24
    · have ax := byte_at xs k LX.out h0
      have ay := byte_at ys k LY.out h0
      by_cases h1 : zb xs k < zb ys k
      · go_wp2
        go_quiet (fail)
        go_wp2
        go_ret
        exact ⟨ret_int (lex_lt xs ys HX.out HY.out k h0 he.out h1), grown_drewN (HG.out _) _⟩
      · by_cases h2 : zb ys k < zb xs k
        · go_wp2
          go_quiet (fail)
          go_wp2
          go_quiet (fail)
          go_wp2
          go_ret
          exact ⟨ret_int (lex_gt xs ys HX.out HY.out k h0 he.out h2), grown_drewN (grown_drewN (HG.out _) _) _⟩
        · go_wp2
          go_quiet (fail)
          go_wp2
          go_quiet (fail)
          go_wp2
          go_roundg (gk - 1)
          case measure => omega
          case rel => exact ⟨k + 1, by omega, by omega, by go_num, by have := lex_step xs ys k he.out; show be xs 0 (k + 1) = be ys 0 (k + 1); omega, _, rfl⟩
    · obtain rfl : k = 24 := by omega
      go_wp2
      go_ret
      exact ⟨ret_int (lex_eq xs ys he.out), HG.out _⟩
end Go.Proofs.Qxb6602229a

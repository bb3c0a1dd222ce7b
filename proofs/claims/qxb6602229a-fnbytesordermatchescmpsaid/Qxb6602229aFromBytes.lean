import Derived.Test.Qxb6602229aRow24
namespace Go.Proofs.Qxb6602229a
open Go.ChangeShapes Go.WideShapes Go.ChangeAt Go.RowKit Plain

/-- The number that n bytes from o on are; one byte: under names that the walk does not open. -/
def bv (zs : List Int) (o n : Nat) : Int := be zs o n
def zb (zs : List Int) (k : Nat) : Int := zs[k]?.getD 0
theorem byte_at (zs : List Int) (k : Nat) (hl : zs.length = 24) (hk : k < 24) : (bytesV zs)[k]? = some (.int .u8 (zb zs k)) := bytesV_get zs k (by omega)
theorem zb_range (zs : List Int) (hz : ∀ k : Nat, 0 ≤ zs[k]?.getD 0 ∧ zs[k]?.getD 0 ≤ 255) (k : Nat) : 0 ≤ zb zs k ∧ zb zs k ≤ 255 := hz k
theorem pow_le (j : Nat) (h : j ≤ 7) : (256 : Int) ^ j ≤ 72057594037927936 := by
  match j, h with
  | 0, _ => decide
  | 1, _ => decide
  | 2, _ => decide
  | 3, _ => decide
  | 4, _ => decide
  | 5, _ => decide
  | 6, _ => decide
  | 7, _ => decide
theorem bv_range (zs : List Int) (hz : ∀ k : Nat, 0 ≤ zs[k]?.getD 0 ∧ zs[k]?.getD 0 ≤ 255) (o j : Nat) (hj : j ≤ 7) : 0 ≤ bv zs o j ∧ bv zs o j ≤ 72057594037927935 := by
  have a := be_range zs hz o j
  have b := pow_le j hj
  unfold bv
  omega
theorem or_low (x y : Int) (hx : 0 ≤ x) (hx' : x < 18446744073709551616) (hy : 0 ≤ y) (hy' : y < 256) (hm : x % 256 = 0) : bits .or .u64 x y = x + y := by
  obtain ⟨a, rfl⟩ := Int.eq_ofNat_of_zero_le hx
  obtain ⟨b, rfl⟩ := Int.eq_ofNat_of_zero_le hy
  rw [bits_or_u64_nat a b (by omega) (by omega), nat_join 8 a b (by omega) (by omega)]
  omega
theorem bv_step (zs : List Int) (hz : ∀ k : Nat, 0 ≤ zs[k]?.getD 0 ∧ zs[k]?.getD 0 ≤ 255) (o j k : Nat) (hj : j ≤ 7) (hk : k = o + j) : bits .or .u64 (bv zs o j * 256) (zb zs k) = bv zs o (j + 1) := by
  have a := bv_range zs hz o j hj
  have b := zb_range zs hz k
  rw [or_low _ _ (by omega) (by omega) (by omega) (by omega) (by omega), hk]
  rfl

set_option maxHeartbeats 2000000 in
theorem from_walk (zs : List Int) (w : World) (hl : zs.length = 24) (hz : ∀ k : Nat, 0 ≤ zs[k]?.getD 0 ∧ zs[k]?.getD 0 ≤ 255) :
    Calls Try.prog 18 #[.agg (bytesV zs)] w fun e w' => e = .returned (.agg #[.int .u64 (bv zs 16 8), .int .u64 (bv zs 8 8), .int .u64 (bv zs 0 8)]) ∧ Grown w w' := by
  have HL : Hid (zs.length = 24) := hl
  have HZ : Hid (∀ k : Nat, 0 ≤ zs[k]?.getD 0 ∧ zs[k]?.getD 0 ≤ 255) := hz
  clear hl hz
  go_enter Try.func18, Try.ntmps18
  go_wp2
  go_loopg [7] 3 (fun g i wr => (g = 3 ∧ i = .int .i64 0 ∧ wr = ((w.alloc (.cells (bytesV zs) 31)).alloc (.cells #[.int .u64 0, .int .u64 0, .int .u64 0] 25)).alloc (.cells #[.int .u64 0, .int .u64 0, .int .u64 0] 25)) ∨ (g = 2 ∧ i = .int .i64 1 ∧ wr = ((w.alloc (.cells (bytesV zs) 31)).alloc (.cells #[.int .u64 0, .int .u64 0, .int .u64 0] 25)).alloc (.cells #[.int .u64 (bv zs 16 8), .int .u64 0, .int .u64 0] 25)) ∨ (g = 1 ∧ i = .int .i64 2 ∧ wr = ((w.alloc (.cells (bytesV zs) 31)).alloc (.cells #[.int .u64 0, .int .u64 0, .int .u64 0] 25)).alloc (.cells #[.int .u64 (bv zs 16 8), .int .u64 (bv zs 8 8), .int .u64 0] 25)) ∨ (g = 0 ∧ i = .int .i64 3 ∧ wr = ((w.alloc (.cells (bytesV zs) 31)).alloc (.cells #[.int .u64 0, .int .u64 0, .int .u64 0] 25)).alloc (.cells #[.int .u64 (bv zs 16 8), .int .u64 (bv zs 8 8), .int .u64 (bv zs 0 8)] 25)))
  case atStart => exact .inl ⟨rfl, rfl, rfl⟩
  case round =>
    rcases hrel with ⟨rfl, rfl, rfl⟩ | ⟨rfl, rfl, rfl⟩ | ⟨rfl, rfl, rfl⟩ | ⟨rfl, rfl, rfl⟩
    · go_wp2
      go_loopg [5, 10] 8 (fun g x i wr => ∃ j : Nat, j ≤ 8 ∧ 8 ≤ g + j ∧ i = .int .i64 j ∧ x = .int .u64 (bv zs 16 j) ∧ wr = ((w.alloc (.cells (bytesV zs) 31)).alloc (.cells #[.int .u64 0, .int .u64 0, .int .u64 0] 25)).alloc (.cells #[.int .u64 0, .int .u64 0, .int .u64 0] 25))
      case atStart => exact ⟨0, by omega, by omega, rfl, rfl, rfl⟩
      case round =>
        obtain ⟨j, hj, hg, rfl, rfl, rfl⟩ := hrel
        by_cases h0 : j < 8
        · have hat := byte_at zs (16 + j) HL.out (by omega)
          have hzb := zb_range zs HZ.out (16 + j)
          have hbv := bv_range zs HZ.out 16 j (by omega)
          go_wp2
          go_roundg (gk - 1)
          case measure => omega
          case rel => exact ⟨j + 1, by omega, by omega, by go_num, by rw [bv_step zs HZ.out 16 j (16 + j) (by omega) (by omega)], rfl⟩
        · obtain rfl : j = 8 := by omega
          go_wp2
          go_roundg 2
          case measure => omega
          case rel => exact .inr (.inl ⟨rfl, rfl, rfl⟩)
    · go_wp2
      go_loopg [5, 10] 8 (fun g x i wr => ∃ j : Nat, j ≤ 8 ∧ 8 ≤ g + j ∧ i = .int .i64 j ∧ x = .int .u64 (bv zs 8 j) ∧ wr = ((w.alloc (.cells (bytesV zs) 31)).alloc (.cells #[.int .u64 0, .int .u64 0, .int .u64 0] 25)).alloc (.cells #[.int .u64 (bv zs 16 8), .int .u64 0, .int .u64 0] 25))
      case atStart => exact ⟨0, by omega, by omega, rfl, rfl, rfl⟩
      case round =>
        obtain ⟨j, hj, hg, rfl, rfl, rfl⟩ := hrel
        by_cases h0 : j < 8
        · have hat := byte_at zs (8 + j) HL.out (by omega)
          have hzb := zb_range zs HZ.out (8 + j)
          have hbv := bv_range zs HZ.out 8 j (by omega)
          go_wp2
          go_roundg (gk - 1)
          case measure => omega
          case rel => exact ⟨j + 1, by omega, by omega, by go_num, by rw [bv_step zs HZ.out 8 j (8 + j) (by omega) (by omega)], rfl⟩
        · obtain rfl : j = 8 := by omega
          go_wp2
          go_roundg 1
          case measure => omega
          case rel => exact .inr (.inr (.inl ⟨rfl, rfl, rfl⟩))
    · go_wp2
      go_loopg [5, 10] 8 (fun g x i wr => ∃ j : Nat, j ≤ 8 ∧ 8 ≤ g + j ∧ i = .int .i64 j ∧ x = .int .u64 (bv zs 0 j) ∧ wr = ((w.alloc (.cells (bytesV zs) 31)).alloc (.cells #[.int .u64 0, .int .u64 0, .int .u64 0] 25)).alloc (.cells #[.int .u64 (bv zs 16 8), .int .u64 (bv zs 8 8), .int .u64 0] 25))
      case atStart => exact ⟨0, by omega, by omega, rfl, rfl, rfl⟩
      case round =>
        obtain ⟨j, hj, hg, rfl, rfl, rfl⟩ := hrel
        by_cases h0 : j < 8
        · have hat := byte_at zs (j) HL.out (by omega)
          have hzb := zb_range zs HZ.out (j)
          have hbv := bv_range zs HZ.out 0 j (by omega)
          go_wp2
          go_roundg (gk - 1)
          case measure => omega
          case rel => exact ⟨j + 1, by omega, by omega, by go_num, by rw [bv_step zs HZ.out 0 j (j) (by omega) (by omega)], rfl⟩
        · obtain rfl : j = 8 := by omega
          go_wp2
          go_roundg 0
          case measure => omega
          case rel => exact .inr (.inr (.inr ⟨rfl, rfl, rfl⟩))
    · go_wp2
      simp [bodyPost, results, Try.results18, go_sem]
      exact (((Grown.refl _).alloc _ _).alloc _ _).alloc _ _
end Go.Proofs.Qxb6602229a

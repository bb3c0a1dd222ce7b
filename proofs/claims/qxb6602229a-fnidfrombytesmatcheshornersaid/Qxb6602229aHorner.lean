import Derived.Test.Qxb6602229aZFrom
namespace Go.Proofs.Qxb6602229a
open Go.ChangeShapes Go.WideShapes Go.ChangeAt Go.RowKit Plain

/-! ### The number read in, byte by byte -/
def Y0 (zs : List Int) (k : Nat) : Int := be zs 0 k % 18446744073709551616
def Y1 (zs : List Int) (k : Nat) : Int := be zs 0 k / 18446744073709551616 % 18446744073709551616
def Y2 (zs : List Int) (k : Nat) : Int := be zs 0 k / 340282366920938463463374607431768211456 % 18446744073709551616
theorem y_bounds (zs : List Int) (k : Nat) : 0 ≤ Y0 zs k ∧ Y0 zs k ≤ 18446744073709551615 ∧ 0 ≤ Y1 zs k ∧ Y1 zs k ≤ 18446744073709551615 ∧ 0 ≤ Y2 zs k ∧ Y2 zs k ≤ 18446744073709551615 := by
  unfold Y0 Y1 Y2
  omega
theorem or_wrap (x y : Int) (hy : 0 ≤ y) (hy' : y < 256) : bits .or .u64 (IntKind.u64.wrap (x * 256)) y = x * 256 % 18446744073709551616 + y := by
  rw [IntKind.wrap_u64, or_low _ _ (by omega) (by omega) (by omega) (by omega) (by omega)]
theorem y0_step (zs : List Int) (hz : ∀ k : Nat, 0 ≤ zs[k]?.getD 0 ∧ zs[k]?.getD 0 ≤ 255) (k : Nat) : bits .or .u64 (IntKind.u64.wrap (Y0 zs k * 256)) (zb zs k) = Y0 zs (k + 1) := by
  have b := zb_range zs hz k
  rw [or_wrap _ _ (by omega) (by omega)]
  unfold Y0
  rw [be]
  unfold zb at *
  simp only [Nat.zero_add]
  omega
theorem y1_step (zs : List Int) (hz : ∀ k : Nat, 0 ≤ zs[k]?.getD 0 ∧ zs[k]?.getD 0 ≤ 255) (k : Nat) : bits .or .u64 (IntKind.u64.wrap (Y1 zs k * 256)) (Y0 zs k / 72057594037927936) = Y1 zs (k + 1) := by
  have b := hz k
  have y := y_bounds zs k
  rw [or_wrap _ _ (by omega) (by omega)]
  unfold Y0 Y1
  rw [be]
  simp only [Nat.zero_add]
  omega
theorem y2_step (zs : List Int) (hz : ∀ k : Nat, 0 ≤ zs[k]?.getD 0 ∧ zs[k]?.getD 0 ≤ 255) (k : Nat) : bits .or .u64 (IntKind.u64.wrap (Y2 zs k * 256)) (Y1 zs k / 72057594037927936) = Y2 zs (k + 1) := by
  have b := hz k
  have y := y_bounds zs k
  rw [or_wrap _ _ (by omega) (by omega)]
  unfold Y1 Y2
  rw [be]
  simp only [Nat.zero_add]
  omega
theorem y_end (zs : List Int) (hz : ∀ k : Nat, 0 ≤ zs[k]?.getD 0 ∧ zs[k]?.getD 0 ≤ 255) : bv zs 16 8 = Y0 zs 24 ∧ bv zs 8 8 = Y1 zs 24 ∧ bv zs 0 8 = Y2 zs 24 := by
  have a := be_range zs hz 16 8
  have b := be_range zs hz 8 8
  have c := be_range zs hz 0 8
  unfold bv Y0 Y1 Y2
  rw [be_words zs]
  unfold num
  omega

set_option maxHeartbeats 1000000 in
theorem horner_law (zs : List Int) (w : World) (hl : zs.length = 24) (hz : ∀ k : Nat, 0 ≤ zs[k]?.getD 0 ∧ zs[k]?.getD 0 ≤ 255) :
    Calls Try.prog 6 #[.agg (bytesV zs)] w fun e w' => e = .returned (.bool true) ∧ Grown w w' := by
  have B0 : ∀ w, _ := fun w => zfrom_walk zs w hl hz
  have B : Hid _ := B0
  have H3 : Hid _ := size31' zs hl
  have H1 : Hid ((w.alloc (.cells (bytesV zs) 31)).heap[w.heap.size]? = some (.cells (bytesV zs) 31 (0, 0))) := heap_alloc_new w _
  have HY : Hid _ := y_end zs hz
  have HZ : Hid (∀ k : Nat, 0 ≤ zs[k]?.getD 0 ∧ zs[k]?.getD 0 ≤ 255) := hz
  have HL : Hid (zs.length = 24) := hl
  clear hl hz B0
  go_enter Try.func6, Try.ntmps6
  go_wp2_with (refine wpList_load_row rfl 31 _ rfl (w.heap.size) rfl 31 (bytesV zs) (0, 0) _ H1.out Try.underlying31 rfl H3.out ?_)
  refine (B.out _).mono ?_
  rintro e W1 ⟨rfl, hg⟩
  have HC : Hid (∀ k, W1.cell? ⟨w.heap.size, k, none⟩ = (bytesV zs)[k]?) := fun k => by
    rw [grown_cell hg (by simp)]
    exact World.cell?_alloc_at _ _ _ _ rfl
  have hgr : Grown w W1 := grown_trans ((Grown.refl _).alloc _ _) hg
  have hsz : w.heap.size + 1 ≤ W1.heap.size := by simpa using hg.2.2
  clear hg B H1 H3
  go_wp2_with fail
  refine (words_walk _ _ _ _).mono ?_
  rintro e W2 ⟨rfl, hg⟩
  have HD : Hid (∀ k, W2.cell? ⟨w.heap.size, k, none⟩ = (bytesV zs)[k]?) := fun k => by
    rw [grown_cell hg (by show w.heap.size < _; omega)]
    exact HC.out k
  have hgr2 : Grown w W2 := grown_trans hgr hg
  clear hg HC hgr hsz
  go_wp2
  go_loopg [6, 7, 8, 9] 24 (fun g x0 x1 x2 i wr => ∃ k : Nat, k ≤ 24 ∧ 24 ≤ g + k ∧ i = .int .i64 k ∧ x0 = .int .u64 (Y0 zs k) ∧ x1 = .int .u64 (Y1 zs k) ∧ x2 = .int .u64 (Y2 zs k) ∧ wr = W2)
  case atStart => exact ⟨0, by omega, by omega, rfl, rfl, rfl, rfl, rfl⟩
  case round =>
    obtain ⟨k, hk, hgk, rfl, rfl, rfl, rfl, rfl⟩ := hrel
    have hb := y_bounds zs k
    by_cases h0 : k < 24
    · have hzb := zb_range zs HZ.out k
      have hat := (HD.out k).trans (byte_at zs k HL.out h0)
      go_wp2
      go_roundg (gk - 1)
      case measure => omega
      case rel => exact ⟨k + 1, by omega, by omega, by go_num, by rw [y0_step zs HZ.out], by rw [y1_step zs HZ.out], by rw [y2_step zs HZ.out], rfl⟩
    · obtain rfl : k = 24 := by omega
      have hy := HY.out
      go_wp2
      go_ret
      exact ⟨rfl, hgr2⟩
end Go.Proofs.Qxb6602229a

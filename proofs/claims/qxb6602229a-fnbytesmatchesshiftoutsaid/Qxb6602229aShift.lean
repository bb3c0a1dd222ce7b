import Derived.Test.Qxb6602229aZBytes
import Derived.Deep.WholeRow
namespace Go.Proofs.Qxb6602229a
open Go.ChangeShapes Go.WideShapes Go.ChangeAt Go.RowKit Plain

/-- A whole row stored into the block that was made last. -/
theorem wpList_store_new {P : Program} {ops : Array Oper} {rest : List Oper} {o : Oper} {a : Act} {w1 : World} {Q : Exit → Act → World → Prop} (hgd : o.guard = none) (ty : TypeId) (x y : Operand) (ho : o.op = .store ty x y)
    (c cells : Array Value) (hx : a.eval x = .pointer (some ⟨w1.heap.size, 0, none⟩)) (hy : a.eval y = .agg cells) (t : TypeId) (hi : (P.info? ty).map (·.size) = some cells.size)
    (hold : c.size = cells.size) (h1 : cells.all (·.oneCell') = true)
    (h : wpList P ops Q rest (a.put o.dst undef) (w1.alloc (.cells cells t))) : wpList P ops Q (o :: rest) a (w1.alloc (.cells c t)) := by
  refine wpList_store_row hgd ty x y ho w1.heap.size cells hx hy t c (heap_alloc_last w1 _) hi hold h1 ?_
  rw [World.setRow_alloc_new]
  exact h

/-! ### The number shifted out, byte by byte -/
def X0 (N : Int) (t : Nat) : Int := N / 256 ^ t % 18446744073709551616
def X1 (N : Int) (t : Nat) : Int := N / 256 ^ t / 18446744073709551616 % 18446744073709551616
def X2 (N : Int) (t : Nat) : Int := N / 256 ^ t / 340282366920938463463374607431768211456

theorem or_join (x y : Int) (hx : 0 ≤ x) (hx' : x < 72057594037927936) (hy : 0 ≤ y) (hy' : y < 18446744073709551616) (hm : y % 72057594037927936 = 0) : bits .or .u64 x y = x + y := by
  obtain ⟨a, rfl⟩ := Int.eq_ofNat_of_zero_le hx
  obtain ⟨b, rfl⟩ := Int.eq_ofNat_of_zero_le hy
  rw [bits_or_u64_nat a b (by omega) (by omega), Nat.or_comm, nat_join 56 b a (by omega) (by omega)]
  omega

theorem x0_step (N : Int) (t : Nat) : bits .or .u64 (X0 N t / 256) (IntKind.u64.wrap (X1 N t * 72057594037927936)) = X0 N (t + 1) := by
  unfold X0 X1
  rw [div_pow_succ, IntKind.wrap_u64]
  generalize N / 256 ^ t = M
  rw [or_join _ _ (by omega) (by omega) (by omega) (by omega) (by omega)]
  omega
theorem x1_step (N : Int) (t : Nat) : bits .or .u64 (X1 N t / 256) (IntKind.u64.wrap (X2 N t * 72057594037927936)) = X1 N (t + 1) := by
  unfold X1 X2
  rw [div_pow_succ, IntKind.wrap_u64]
  generalize N / 256 ^ t = M
  rw [or_join _ _ (by omega) (by omega) (by omega) (by omega) (by omega)]
  omega
theorem x2_step (N : Int) (t : Nat) : X2 N t / 256 = X2 N (t + 1) := by
  unfold X2
  rw [div_pow_succ]
  generalize N / 256 ^ t = M
  omega
theorem x_bounds (N : Int) (h0 : 0 ≤ N) (h1 : N < 6277101735386680763835789423207666416102355444464034512896) (t : Nat) :
    0 ≤ X0 N t ∧ X0 N t ≤ 18446744073709551615 ∧ 0 ≤ X1 N t ∧ X1 N t ≤ 18446744073709551615 ∧ 0 ≤ X2 N t ∧ X2 N t ≤ 18446744073709551615 := by
  have a : N / 256 ^ t ≤ N := Int.ediv_le_self _ h0
  have b : 0 ≤ N / 256 ^ t := Int.ediv_nonneg h0 (Int.le_of_lt (pow_pos t))
  unfold X0 X1 X2
  revert a b
  generalize N / 256 ^ t = M
  intro a b
  omega
theorem x_start (w0 w1 w2 : Int) (h : 0 ≤ w0 ∧ w0 ≤ 18446744073709551615 ∧ 0 ≤ w1 ∧ w1 ≤ 18446744073709551615 ∧ 0 ≤ w2 ∧ w2 ≤ 18446744073709551615) :
    w0 = X0 (num w0 w1 w2) 0 ∧ w1 = X1 (num w0 w1 w2) 0 ∧ w2 = X2 (num w0 w1 w2) 0 := by
  unfold X0 X1 X2 num
  simp only [Int.pow_zero, Int.ediv_one]
  omega
theorem x_end (N : Int) (h0 : 0 ≤ N) (h1 : N < 6277101735386680763835789423207666416102355444464034512896) : X0 N 24 = 0 ∧ X1 N 24 = 0 ∧ X2 N 24 = 0 := by
  unfold X0 X1 X2
  omega
theorem x_byte (N : Int) (t : Nat) (h : t < 24) : (bytesV (digs N))[23 - t]? = some (.int .u8 (X0 N t % 256)) := by
  rw [bytesV_get _ _ (by rw [digs_length]; omega), digs_get N _ (by omega), show 23 - (23 - t) = t by omega]
  unfold X0
  generalize N / 256 ^ t = M
  congr 2
  omega

set_option maxHeartbeats 1000000 in
theorem shift_law (w0 w1 w2 : Int) (w : World) (h : 0 ≤ w0 ∧ w0 ≤ 18446744073709551615 ∧ 0 ≤ w1 ∧ w1 ≤ 18446744073709551615 ∧ 0 ≤ w2 ∧ w2 ≤ 18446744073709551615) :
    Calls Try.prog 5 #[.int .u64 w0, .int .u64 w1, .int .u64 w2] w fun e w' => e = .returned (.bool true) ∧ Grown w w' := by
  obtain ⟨zs, hzs⟩ : ∃ zs, zs = digs (num w0 w1 w2) := ⟨_, rfl⟩
  have hl : zs.length = 24 := by rw [hzs, digs_length]
  have B0 : ∀ w, _ := fun w => zbytes_walk w0 w1 w2 w h zs hzs
  obtain ⟨N, hN⟩ : ∃ N, N = num w0 w1 w2 := ⟨_, rfl⟩
  have hN0 : 0 ≤ N := by rw [hN]; unfold num; omega
  have hN1 : N < 6277101735386680763835789423207666416102355444464034512896 := by rw [hN]; unfold num; omega
  have Hs : Hid (w0 = X0 N 0 ∧ w1 = X1 N 0 ∧ w2 = X2 N 0) := by rw [hN]; exact x_start w0 w1 w2 h
  have HB : Hid (∀ t, 0 ≤ X0 N t ∧ X0 N t ≤ 18446744073709551615 ∧ 0 ≤ X1 N t ∧ X1 N t ≤ 18446744073709551615 ∧ 0 ≤ X2 N t ∧ X2 N t ≤ 18446744073709551615) := x_bounds N hN0 hN1
  have HA : Hid (∀ t, t < 24 → (bytesV zs)[23 - t]? = some (.int .u8 (X0 N t % 256))) := by rw [hzs, ← hN]; exact x_byte N
  have HE : Hid (X0 N 24 = 0 ∧ X1 N 24 = 0 ∧ X2 N 24 = 0) := x_end N hN0 hN1
  have B : Hid _ := B0
  have H3 : Hid _ := size31' zs hl
  have H4 : Hid ((bytesV zeros24).size = (bytesV zs).size) := by show (bytesV zeros24).size = (bytesV zs).size; rw [bytesV_size, bytesV_size, zeros24_length, hl]
  have H5 : Hid _ := bytesV_one zs
  clear hl B0 hzs h hN hN0 hN1
  go_enter Try.func5, Try.ntmps5
  go_wp2_with (go_at_call 10; refine (newID _ _ _ _).mono ?_; rintro e w' ⟨rfl, c, rfl⟩)
  refine (B.out _).mono ?_
  rintro e W1 ⟨rfl, hg⟩
  have hgr : Grown w W1 := grown_trans ((Grown.refl _).alloc _ _) hg
  clear hg B
  go_wp2_with (refine wpList_store_new rfl 31 _ _ rfl (bytesV zeros24) (bytesV zs) rfl rfl 31 H3.out H4.out H5.out ?_)
  go_loopg [8, 9, 10, 11] 24 (fun g x0 x1 x2 k wr => ∃ t : Nat, t ≤ 24 ∧ 24 ≤ g + t ∧ k = .int .i64 (23 - (t : Int)) ∧ x0 = .int .u64 (X0 N t) ∧ x1 = .int .u64 (X1 N t) ∧ x2 = .int .u64 (X2 N t) ∧ wr = W1.alloc (.cells (bytesV zs) 31))
  case atStart => exact ⟨0, by omega, by omega, rfl, by rw [Hs.out.1], by rw [Hs.out.2.1], by rw [Hs.out.2.2], rfl⟩
  case round =>
    obtain ⟨t, ht, hgt, rfl, rfl, rfl, rfl, rfl⟩ := hrel
    have hb := HB.out t
    by_cases h0 : t < 24
    · have hat := HA.out t h0
      go_wp2
      go_roundg (gk - 1)
      case measure => omega
      case rel => exact ⟨t + 1, by omega, by omega, by congr 1; omega, by rw [x0_step], by rw [x1_step], by rw [x2_step], rfl⟩
    · obtain rfl : t = 24 := by omega
      have hz := HE.out
      have hor : (bits .or .u64 (bits .or .u64 0 0) 0 == 0) = true := by decide
      go_wp2
      go_ret
      exact ⟨rfl, hgr.alloc _ _⟩
end Go.Proofs.Qxb6602229a

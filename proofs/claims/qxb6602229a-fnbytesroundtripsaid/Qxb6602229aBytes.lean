import Derived.Test.Qxb6602229aRow24
namespace Go.Proofs.Qxb6602229a
open Go.ChangeShapes Go.WideShapes Go.ChangeAt Go.RowKit Plain

set_option maxHeartbeats 2000000 in
theorem bytes_walk (w0 w1 w2 : Int) (w : World) (h : 0 ≤ w0 ∧ w0 ≤ 18446744073709551615 ∧ 0 ≤ w1 ∧ w1 ≤ 18446744073709551615 ∧ 0 ≤ w2 ∧ w2 ≤ 18446744073709551615)
   (zs : List Int) (hzs : zs = digs (num w0 w1 w2)) :
    Calls Try.prog 17 #[.agg #[.int .u64 w0, .int .u64 w1, .int .u64 w2]] w fun e w' => e = .returned (.agg (bytesV zs)) ∧ Grown w w' := by
  obtain ⟨g1, g2, g3, g4, g5, g6⟩ := h
  have hl : zs.length = 24 := by rw [hzs, digs_length]
  have HL : Hid (zs.length = 24) := hl
  have HZ : Hid (zs = digs (num w0 w1 w2)) := hzs
  clear hzs hl
  go_enter Try.func17, Try.ntmps17
  go_wp2
  go_loopg [7] 3 (fun g i wr => (g = 3 ∧ i = .int .i64 0 ∧ wr = ((w.alloc (.cells #[.int .u64 w0, .int .u64 w1, .int .u64 w2] 25)).alloc (.cells (bytesV (pre zs 0)) 31)).alloc (.cells (bytesV (pre zs 0)) 31)) ∨
     (g = 2 ∧ i = .int .i64 1 ∧ wr = ((w.alloc (.cells #[.int .u64 w0, .int .u64 w1, .int .u64 w2] 25)).alloc (.cells (bytesV (pre zs 0)) 31)).alloc (.cells (bytesV (pre zs 8)) 31)) ∨
     (g = 1 ∧ i = .int .i64 2 ∧ wr = ((w.alloc (.cells #[.int .u64 w0, .int .u64 w1, .int .u64 w2] 25)).alloc (.cells (bytesV (pre zs 0)) 31)).alloc (.cells (bytesV (pre zs 16)) 31)) ∨
     (g = 0 ∧ i = .int .i64 3 ∧ wr = ((w.alloc (.cells #[.int .u64 w0, .int .u64 w1, .int .u64 w2] 25)).alloc (.cells (bytesV (pre zs 0)) 31)).alloc (.cells (bytesV (pre zs 24)) 31)))
  case atStart => exact .inl ⟨rfl, rfl, rfl⟩
  case round =>
    rcases hrel with ⟨rfl, rfl, rfl⟩ | ⟨rfl, rfl, rfl⟩ | ⟨rfl, rfl, rfl⟩ | ⟨rfl, rfl, rfl⟩
    · go_wp2
      go_loopg [15] 8 (fun g i wr => ∃ j : Nat, j ≤ 8 ∧ 8 ≤ g + j ∧ i = .int .i64 j ∧ wr = ((w.alloc (.cells #[.int .u64 w0, .int .u64 w1, .int .u64 w2] 25)).alloc (.cells (bytesV (pre zs 0)) 31)).alloc (.cells (bytesV (pre zs (j))) 31))
      case atStart => exact ⟨0, by omega, by omega, rfl, rfl⟩
      case round =>
        obtain ⟨j, hj, hg, rfl, rfl⟩ := hrel
        by_cases h0 : j < 8
        · have hat := pre_at zs (j) HL.out (by omega)
          go_wp2
          go_roundg (gk - 1)
          case measure => omega
          case rel => exact ⟨j + 1, by omega, by omega, by go_num, by rw [pre_set zs (j) _ HL.out (by omega) (by rw [HZ.out]; exact digs_w2 w0 w1 w2 g1 (by omega) g3 (by omega) j h0)]⟩
        · obtain rfl : j = 8 := by omega
          go_wp2
          go_roundg 2
          case measure => omega
          case rel => exact .inr (.inl ⟨rfl, rfl, rfl⟩)
    · go_wp2
      go_loopg [15] 8 (fun g i wr => ∃ j : Nat, j ≤ 8 ∧ 8 ≤ g + j ∧ i = .int .i64 j ∧ wr = ((w.alloc (.cells #[.int .u64 w0, .int .u64 w1, .int .u64 w2] 25)).alloc (.cells (bytesV (pre zs 0)) 31)).alloc (.cells (bytesV (pre zs (8 + j))) 31))
      case atStart => exact ⟨0, by omega, by omega, rfl, rfl⟩
      case round =>
        obtain ⟨j, hj, hg, rfl, rfl⟩ := hrel
        by_cases h0 : j < 8
        · have hat := pre_at zs (8 + j) HL.out (by omega)
          go_wp2
          go_roundg (gk - 1)
          case measure => omega
          case rel => exact ⟨j + 1, by omega, by omega, by go_num, by rw [pre_set zs (8 + j) _ HL.out (by omega) (by rw [HZ.out]; exact digs_w1 w0 w1 w2 g1 (by omega) j h0)]; rfl⟩
        · obtain rfl : j = 8 := by omega
          go_wp2
          go_roundg 1
          case measure => omega
          case rel => exact .inr (.inr (.inl ⟨rfl, rfl, rfl⟩))
    · go_wp2
      go_loopg [15] 8 (fun g i wr => ∃ j : Nat, j ≤ 8 ∧ 8 ≤ g + j ∧ i = .int .i64 j ∧ wr = ((w.alloc (.cells #[.int .u64 w0, .int .u64 w1, .int .u64 w2] 25)).alloc (.cells (bytesV (pre zs 0)) 31)).alloc (.cells (bytesV (pre zs (16 + j))) 31))
      case atStart => exact ⟨0, by omega, by omega, rfl, rfl⟩
      case round =>
        obtain ⟨j, hj, hg, rfl, rfl⟩ := hrel
        by_cases h0 : j < 8
        · have hat := pre_at zs (16 + j) HL.out (by omega)
          go_wp2
          go_roundg (gk - 1)
          case measure => omega
          case rel => exact ⟨j + 1, by omega, by omega, by go_num, by rw [pre_set zs (16 + j) _ HL.out (by omega) (by rw [HZ.out]; exact digs_w0 w0 w1 w2 j h0)]; rfl⟩
        · obtain rfl : j = 8 := by omega
          go_wp2
          go_roundg 0
          case measure => omega
          case rel => exact .inr (.inr (.inr ⟨rfl, rfl, rfl⟩))
    · have hl := HL.out
      have e2 : bytesV (pre zs 24) = bytesV zs := by rw [pre_all zs hl]
      rw [e2]
      have hg1 : (((w.alloc (.cells #[.int .u64 w0, .int .u64 w1, .int .u64 w2] 25)).alloc (.cells (bytesV (pre zs 0)) 31)).alloc (.cells (bytesV zs) 31)).heap[w.heap.size + 1 + 1]? = some (.cells (bytesV zs) 31 (0, 0)) := by
        have := heap_alloc_new ((w.alloc (.cells #[.int .u64 w0, .int .u64 w1, .int .u64 w2] 25)).alloc (.cells (bytesV (pre zs 0)) 31)) (.cells (bytesV zs) 31)
        simpa using this
      have hg2 : (((w.alloc (.cells #[.int .u64 w0, .int .u64 w1, .int .u64 w2] 25)).alloc (.cells (bytesV (pre zs 0)) 31)).alloc (.cells (bytesV zs) 31)).heap[w.heap.size + 1]? = some (.cells (bytesV (pre zs 0)) 31 (0, 0)) := by
        rw [Below.heap_alloc _ _ _ (by simp)]
        have := heap_alloc_new (w.alloc (.cells #[.int .u64 w0, .int .u64 w1, .int .u64 w2] 25)) (.cells (bytesV (pre zs 0)) 31)
        simpa using this
      have hs := size31' zs hl
      have ho : (bytesV (pre zs 0)).size = (bytesV zs).size := by rw [bytesV_size, bytesV_size, pre_length zs 0 hl (by omega), hl]
      have h1 := bytesV_one zs
      have hgr : Grown w (((w.alloc (.cells #[.int .u64 w0, .int .u64 w1, .int .u64 w2] 25)).alloc (.cells (bytesV (pre zs 0)) 31)).alloc (.cells (bytesV zs) 31)) := (((Grown.refl _).alloc _ _).alloc _ _).alloc _ _
      generalize ((w.alloc (.cells #[.int .u64 w0, .int .u64 w1, .int .u64 w2] 25)).alloc (.cells (bytesV (pre zs 0)) 31)).alloc (.cells (bytesV zs) 31) = W3 at *
      have H1 : Hid _ := hg1; have H2 : Hid _ := hg2; have H3 : Hid _ := hs; have H4 : Hid _ := ho; have H5 : Hid _ := h1
      clear hg1 hg2 hs ho h1 hl e2 HL HZ
      go_wp2_with (first | (refine wpList_load_row rfl 31 _ rfl (w.heap.size + 1 + 1) rfl 31 (bytesV zs) (0, 0) _ H1.out Try.underlying31 rfl H3.out ?_) | (refine wpList_store_row rfl 31 _ _ rfl (w.heap.size + 1) (bytesV zs) rfl rfl 31 (bytesV (pre zs 0)) H2.out H3.out H4.out H5.out ?_))
      exact bodyPost_ret (v := .agg (bytesV zs)) (results_cell_row Try.results17 _ _ (w.heap.size + 1) 31 (bytesV zs) (0, 0) _ rfl (setRow_heap _ _ _ _ _ _ H2.out) Try.underlying31 rfl H3.out) rfl ⟨rfl, grown_setRow hgr (by omega) _⟩
end Go.Proofs.Qxb6602229a

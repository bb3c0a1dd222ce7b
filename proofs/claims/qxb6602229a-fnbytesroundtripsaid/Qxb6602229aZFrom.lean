import Derived.Test.Qxb6602229aFromBytes
namespace Go.Proofs.Qxb6602229a
open Go.ChangeShapes Go.WideShapes Go.ChangeAt Go.RowKit Plain

theorem size25 : (Try.prog.info? 25).map (·.size) = some 3 := by kernel_rfl
theorem one25 (a b c : Int) : (#[.int .u64 a, .int .u64 b, .int .u64 c] : Array Value).all (·.oneCell') = true := by simp [Value.oneCell']
theorem size25' (a b c : Value) : (Try.prog.info? 25).map (·.size) = some (#[a, b, c] : Array Value).size := size25

set_option maxHeartbeats 1000000 in
/-- ZZIDFromBytes. -/
theorem zfrom_walk (zs : List Int) (w : World) (hl : zs.length = 24) (hz : ∀ k : Nat, 0 ≤ zs[k]?.getD 0 ∧ zs[k]?.getD 0 ≤ 255) :
    Calls Try.prog 15 #[.agg (bytesV zs)] w fun e w' => e = .returned (.agg #[.int .u64 (bv zs 16 8), .int .u64 (bv zs 8 8), .int .u64 (bv zs 0 8)]) ∧ Grown w w' := by
  have B0 : ∀ w, _ := fun w => from_walk zs w hl hz
  have B : Hid _ := B0
  have H3 : Hid _ := size31' zs hl
  have H1 : Hid (((w.alloc (.cells (bytesV zs) 31)).alloc (.cells #[.int .u64 0, .int .u64 0, .int .u64 0] 25)).heap[w.heap.size]? = some (.cells (bytesV zs) 31 (0, 0))) := by
    show ((w.alloc (.cells (bytesV zs) 31)).alloc (.cells #[.int .u64 0, .int .u64 0, .int .u64 0] 25)).heap[w.heap.size]? = some (.cells (bytesV zs) 31 (0, 0))
    rw [Below.heap_alloc _ _ _ (by simp)]
    exact heap_alloc_new w _
  clear hl hz B0
  go_enter Try.func15, Try.ntmps15
  go_wp2_with (refine wpList_load_row rfl 31 _ rfl (w.heap.size) rfl 31 (bytesV zs) (0, 0) _ H1.out Try.underlying31 rfl H3.out ?_)
  refine (B.out _).mono ?_
  rintro e W1 ⟨rfl, hg⟩
  have H2 : Hid (W1.heap[w.heap.size + 1]? = some (.cells #[.int .u64 0, .int .u64 0, .int .u64 0] 25 (0, 0))) := by
    show W1.heap[w.heap.size + 1]? = _
    rw [grown_block hg (by simp)]
    have := heap_alloc_new (w.alloc (.cells (bytesV zs) 31)) (.cells #[.int .u64 0, .int .u64 0, .int .u64 0] 25)
    rw [World.size_alloc] at this
    exact this
  have hgr : Grown w W1 := grown_trans (((Grown.refl _).alloc _ _).alloc _ _) hg
  clear hg B H1 H3
  go_wp2_with (refine wpList_store_row rfl 25 _ _ rfl (w.heap.size + 1) #[.int .u64 (bv zs 16 8), .int .u64 (bv zs 8 8), .int .u64 (bv zs 0 8)] rfl rfl 25 _ H2.out (size25' _ _ _) rfl (one25 _ _ _) ?_)
  exact bodyPost_ret (v := .agg #[.int .u64 (bv zs 16 8), .int .u64 (bv zs 8 8), .int .u64 (bv zs 0 8)]) (results_cell_row Try.results15 _ _ (w.heap.size + 1) 25 _ (0, 0) _ rfl (setRow_heap _ _ _ _ _ _ H2.out) Try.underlying25 rfl (size25' _ _ _)) rfl ⟨rfl, grown_setRow hgr (by omega) _⟩

set_option maxHeartbeats 1000000 in
/-- ZZWords. -/
theorem words_walk (a0 a1 a2 : Int) (w : World) :
    Calls Try.prog 14 #[.agg #[.int .u64 a0, .int .u64 a1, .int .u64 a2]] w fun e w' => e = .returned (.tuple #[.int .u64 a0, .int .u64 a1, .int .u64 a2]) ∧ Grown w w' := by
  go_enter Try.func14, Try.ntmps14
  go_wp2
  go_quiet (fail)
  go_wp2
  go_ret3
  exact ⟨rfl, grown_drewN ((Grown.refl _).alloc _ _) _⟩
end Go.Proofs.Qxb6602229a

import Derived.Test.Qxb6602229aBytes
namespace Go.Proofs.Qxb6602229a
open Go.ChangeShapes Go.WideShapes Go.ChangeAt Go.RowKit Plain

/-- The zero bytes, under a name. -/
def zeros24 : List Int := List.replicate 24 0
theorem zeros24_length : zeros24.length = 24 := rfl

set_option maxHeartbeats 1000000 in
/-- ZZBytes. -/
theorem zbytes_walk (w0 w1 w2 : Int) (w : World) (h : 0 ≤ w0 ∧ w0 ≤ 18446744073709551615 ∧ 0 ≤ w1 ∧ w1 ≤ 18446744073709551615 ∧ 0 ≤ w2 ∧ w2 ≤ 18446744073709551615)
   (zs : List Int) (hzs : zs = digs (num w0 w1 w2)) :
    Calls Try.prog 13 #[.agg #[.int .u64 w0, .int .u64 w1, .int .u64 w2]] w fun e w' => e = .returned (.agg (bytesV zs)) ∧ Grown w w' := by
  have hl : zs.length = 24 := by rw [hzs, digs_length]
  have B0 : ∀ w, _ := fun w => bytes_walk w0 w1 w2 w h zs hzs
  have B : Hid _ := B0
  have H3 : Hid _ := size31' zs hl
  have H4 : Hid ((bytesV zeros24).size = (bytesV zs).size) := by show (bytesV zeros24).size = (bytesV zs).size; rw [bytesV_size, bytesV_size, zeros24_length, hl]
  have H5 : Hid _ := bytesV_one zs
  clear hl B0 hzs h
  go_enter Try.func13, Try.ntmps13
  go_wp2_with fail
  refine (B.out _).mono ?_
  rintro e W1 ⟨rfl, hg⟩
  have H2 : Hid (W1.heap[w.heap.size + 1]? = some (.cells (bytesV zeros24) 31 (0, 0))) := by
    show W1.heap[w.heap.size + 1]? = _
    rw [grown_block hg (by simp)]
    have := heap_alloc_new (w.alloc (.cells #[.int .u64 w0, .int .u64 w1, .int .u64 w2] 25)) (.cells (bytesV zeros24) 31)
    rw [World.size_alloc] at this
    exact this
  have hgr : Grown w W1 := grown_trans (((Grown.refl _).alloc _ _).alloc _ _) hg
  clear hg B
  go_wp2_with (refine wpList_store_row rfl 31 _ _ rfl (w.heap.size + 1) (bytesV zs) rfl rfl 31 (bytesV zeros24) H2.out H3.out H4.out H5.out ?_)
  exact bodyPost_ret (v := .agg (bytesV zs)) (results_cell_row Try.results13 _ _ (w.heap.size + 1) 31 (bytesV zs) (0, 0) _ rfl (setRow_heap _ _ _ _ _ _ H2.out) Try.underlying31 rfl H3.out) rfl ⟨rfl, grown_setRow hgr (by omega) _⟩
end Go.Proofs.Qxb6602229a

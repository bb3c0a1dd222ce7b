import Derived.Test.Qxb6602229aZFrom
import Derived.Test.Qxb6602229aZBytes
import Derived.Test.Qxb6602229aEq
namespace Go.Proofs.Qxb6602229a
open Go.ChangeShapes Go.WideShapes Go.ChangeAt Go.RowKit Plain

set_option maxHeartbeats 1000000 in
theorem round_law (w0 w1 w2 : Int) (w : World) (h : 0 ≤ w0 ∧ w0 ≤ 18446744073709551615 ∧ 0 ≤ w1 ∧ w1 ≤ 18446744073709551615 ∧ 0 ≤ w2 ∧ w2 ≤ 18446744073709551615) :
    Calls Try.prog 7 #[.int .u64 w0, .int .u64 w1, .int .u64 w2] w fun e w' => e = .returned (.bool true) ∧ Grown w w' := by
  obtain ⟨zs, hzs⟩ : ∃ zs, zs = digs (num w0 w1 w2) := ⟨_, rfl⟩
  have B0 : ∀ w, _ := fun w => zbytes_walk w0 w1 w2 w h zs hzs
  have B : Hid _ := B0
  have e3 := num_words w0 w1 w2 h.1 (by omega) h.2.2.1 (by omega) h.2.2.2.2.1 (by omega)
  rw [← hzs] at e3
  have A0 : ∀ w, _ := fun w => zfrom_walk zs w (by rw [hzs, digs_length]) (by rw [hzs]; exact digs_byte _)
  unfold bv at A0
  rw [e3.1, e3.2.1, e3.2.2] at A0
  have A : Hid _ := A0
  have heq := fun w => eq_id w0 w1 w2 w0 w1 w2 w
  clear A0 B0 hzs h e3
  go_enter Try.func7, Try.ntmps7
  go_wp2_with (go_at_call 10; refine (newID _ _ _ _).mono ?_; rintro e w' ⟨rfl, c, rfl⟩)
  refine (B.out _).mono ?_
  rintro e W1 ⟨rfl, hg1⟩
  go_wp2_with fail
  refine (A.out _).mono ?_
  rintro e W2 ⟨rfl, hg2⟩
  have hg := grown_trans hg1 hg2
  clear hg1 hg2
  obtain ⟨hc, hf, hs⟩ := grown_facts hg
  have c0 : W2.cell? ⟨w.heap.size + 1, 0, none⟩ = some (.int .u64 w0) := by rw [hc _ _ (by simp)]; simp [go_sem]
  have c1 : W2.cell? ⟨w.heap.size + 1, 1, none⟩ = some (.int .u64 w1) := by rw [hc _ _ (by simp)]; simp [go_sem]
  have c2 : W2.cell? ⟨w.heap.size + 1, 2, none⟩ = some (.int .u64 w2) := by rw [hc _ _ (by simp)]; simp [go_sem]
  have hs2 : w.heap.size + 2 ≤ W2.heap.size := by simpa using hs
  have hgr : Grown w W2 := grown_trans (((Grown.refl _).alloc _ _).alloc _ _) hg
  clear hg hc hf hs
  go_wp2_with fail
  refine (words_walk _ _ _ _).mono ?_
  rintro e W3 ⟨rfl, hg3⟩
  have d0 : W3.cell? ⟨W2.heap.size, 0, none⟩ = some (.int .u64 w0) := by rw [grown_cell hg3 (by simp)]; simp [go_sem]
  have d1 : W3.cell? ⟨W2.heap.size, 1, none⟩ = some (.int .u64 w1) := by rw [grown_cell hg3 (by simp)]; simp [go_sem]
  have d2 : W3.cell? ⟨W2.heap.size, 2, none⟩ = some (.int .u64 w2) := by rw [grown_cell hg3 (by simp)]; simp [go_sem]
  have f0 : W3.cell? ⟨w.heap.size + 1, 0, none⟩ = some (.int .u64 w0) := by rw [grown_cell hg3 (by simp; omega), World.cell?_alloc_past _ _ _ (by omega)]; exact c0
  have f1 : W3.cell? ⟨w.heap.size + 1, 1, none⟩ = some (.int .u64 w1) := by rw [grown_cell hg3 (by simp; omega), World.cell?_alloc_past _ _ _ (by omega)]; exact c1
  have f2 : W3.cell? ⟨w.heap.size + 1, 2, none⟩ = some (.int .u64 w2) := by rw [grown_cell hg3 (by simp; omega), World.cell?_alloc_past _ _ _ (by omega)]; exact c2
  have hgr3 : Grown w W3 := grown_trans (hgr.alloc _ _) hg3
  clear hg3 c0 c1 c2 hgr
  go_wp2
  go_ret
  exact ⟨rfl, hgr3⟩
end Go.Proofs.Qxb6602229a

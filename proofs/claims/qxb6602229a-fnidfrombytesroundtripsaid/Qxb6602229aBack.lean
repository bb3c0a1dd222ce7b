import Derived.Test.Qxb6602229aZFrom
import Derived.Test.Qxb6602229aZBytes
import Derived.ChangeKeysEq
import Derived.Deep.RegionHeld3
namespace Go.Proofs.Qxb6602229a
open Go.ChangeShapes Go.WideShapes Go.ChangeAt Go.RowKit Plain

/-! ### '==' on two arrays of the same bytes -/
theorem info5 : ∃ i, Try.prog.info? 5 = some i := by
  cases h : Try.prog.info? 5 with
  | some i => exact ⟨i, rfl⟩
  | none => have : Try.prog.cellsOf 5 = 1 := by kernel_rfl
            simp [Program.cellsOf, h] at this
theorem eq_items_self (zs : List Int) (d : Nat) (w : World) : ∀ is : List Nat, (∀ i ∈ is, i < zs.length) → (Op.eqItems (d + 1) 5 1 (bytesV zs) (bytesV zs) is).run Try.prog w = .ok true w
  | [], _ => by simp [Op.eqItems]
  | i :: is, h => by
    have hi : i < zs.length := h i (by simp)
    have px : (part 5 (bytesV zs) (i * 1)).run Try.prog w = .ok (.int .u8 (zs[i]?.getD 0)) w := by
      simp [part, isAgg, run_underlying Try.underlying5, bytesV_get zs i hi]
    have pe : (Op.equalIn (d + 1) 5 (.int .u8 (zs[i]?.getD 0)) (.int .u8 (zs[i]?.getD 0))).run Try.prog w = .ok true w := by
      rw [run_equalIn_int w d 5 .u8 .u8 _ _ Try.underlying5]; simp
    simp only [Op.eqItems, Sem.run_bind, px, pe, Result.andThen_ok, Bool.not_true, Bool.false_eq_true, if_false]
    exact eq_items_self zs d w is (fun j hj => h j (by simp [hj]))
theorem eq_bytes_self (zs : List Int) (hl : zs.length = 24) (w : World) : (Op.equalIn 10000 31 (.agg (bytesV zs)) (.agg (bytesV zs))).run Try.prog w = .ok true w := by
  obtain ⟨i, hi⟩ := info5
  have c5 : Try.prog.cellsOf 5 = 1 := by kernel_rfl
  rw [run_equalIn_array w 9999 _ _ Try.underlying31 hi, c5]
  exact eq_items_self zs 9998 w _ (by simp [hl])

/-- The row lies there still. -/
theorem range_grown {w w' : World} {b : Nat} {zs : List Int} (h : w.rangeAt b 0 (zs.map (Value.int .u8))) (g : Grown w w') (hb : b < w.heap.size) : w'.rangeAt b 0 (zs.map (Value.int .u8)) := fun j v hv => by
  rw [grown_cell g (show (⟨b, 0 + j, none⟩ : Addr).block < _ from hb)]
  exact h j v hv
theorem words_back (zs : List Int) (hl : zs.length = 24) (hz : ∀ k : Nat, 0 ≤ zs[k]?.getD 0 ∧ zs[k]?.getD 0 ≤ 255) : zs = digs (num (bv zs 16 8) (bv zs 8 8) (bv zs 0 8)) := by
  unfold bv
  rw [← be_words, digs_be zs hl hz]
theorem bv_word (zs : List Int) (hz : ∀ k : Nat, 0 ≤ zs[k]?.getD 0 ∧ zs[k]?.getD 0 ≤ 255) (o : Nat) : 0 ≤ bv zs o 8 ∧ bv zs o 8 ≤ 18446744073709551615 := by
  have := be_range zs hz o 8
  unfold bv
  omega
set_option maxHeartbeats 1000000 in
theorem back_law (zs : List Int) (w : World) (hl : zs.length = 24) (hz : ∀ k : Nat, 0 ≤ zs[k]?.getD 0 ∧ zs[k]?.getD 0 ≤ 255) :
    Calls Try.prog 8 #[.agg (bytesV zs)] w fun e w' => e = .returned (.bool true) ∧ Grown w w' := by
  have A0 : ∀ w, _ := fun w => zfrom_walk zs w hl hz
  have B0 : ∀ w, _ := fun w => zbytes_walk (bv zs 16 8) (bv zs 8 8) (bv zs 0 8) w ⟨(bv_word zs hz 16).1, (bv_word zs hz 16).2, (bv_word zs hz 8).1, (bv_word zs hz 8).2, (bv_word zs hz 0).1, (bv_word zs hz 0).2⟩ zs (words_back zs hl hz)
  have A : Hid _ := A0
  have B : Hid _ := B0
  have heq := fun w => eq_bytes_self zs hl w
  have hi : (Try.prog.info? 31).map (·.size) = some (zs.map (Value.int .u8)).length := by rw [List.length_map, hl]; exact size31
  have hu := Try.underlying31
  clear hl hz A0 B0
  go_enter Try.func8, Try.ntmps8
  go_wp2
  refine wp_region_noPanic ?_
  have hS0 : (w.alloc (.cells (bytesV zs) 31)).drew.rangeAt w.heap.size 0 (zs.map (Value.int .u8)) ∧ w.heap.size < (w.alloc (.cells (bytesV zs) 31)).drew.heap.size ∧ Grown w (w.alloc (.cells (bytesV zs) 31)).drew := by
    refine ⟨fun j v hv => ?_, by simp [World.drew], ((Grown.refl _).alloc _ _).drew⟩
    show (w.alloc (.cells (bytesV zs) 31)).cell? ⟨w.heap.size, 0 + j, none⟩ = some v
    rw [World.cell?_alloc_at _ _ _ _ rfl, Nat.zero_add, bytesV]
    simpa using hv
  refine wp_region_held_drew (S := fun w' => w'.rangeAt w.heap.size 0 (zs.map (Value.int .u8)) ∧ w.heap.size < w'.heap.size ∧ Grown w w') (by kernel_rfl) hS0 (fun hHeld => ?_)
  clear hS0
  refine wpAnyH_take (i := 0) (v := .agg (bytesV zs)) rfl (by kernel_rfl) (by kernel_rfl) (by kernel_rfl) (fun _ _ _ h => h) (yieldsIf_load_mid (by rfl) _ _ rfl _ _ rfl (zs.map (Value.int .u8)) _ (fun _ h => h.1) hu rfl hi) hHeld ?_
  refine wpAnyH_take (i := 3) (v := .agg (bytesV zs)) rfl (by kernel_rfl) (by kernel_rfl) (by kernel_rfl) (fun _ _ _ h => h) (yieldsIf_load_mid (by rfl) _ _ rfl _ _ rfl (zs.map (Value.int .u8)) _ (fun _ h => h.1) hu rfl hi) hHeld ?_
  simp only [Act.put, List.setIfInBounds_toArray]
  refine wpAnyH_ready (rs := [1]) (by kernel_rfl) (by simp) ?_
  refine AllReadyH.cons rfl (fun K hK => ?_) AllReadyH.nil
  go_simp
  refine (A.out _).mono ?_
  rintro e W1 ⟨rfl, hg⟩
  refine hK.out _ _ ⟨range_grown hHeld.1 hg hHeld.2.1, Nat.lt_of_lt_of_le hHeld.2.1 hg.2.2, grown_trans hHeld.2.2 hg⟩ (fun hHeld1 => ?_)
  clear hK K hHeld hg
  refine wpAnyH_ready (rs := [2]) (by kernel_rfl) (by simp) ?_
  refine AllReadyH.cons rfl (fun K hK => ?_) AllReadyH.nil
  go_simp
  refine (B.out _).mono ?_
  rintro e W2 ⟨rfl, hg⟩
  refine hK.out _ _ ⟨range_grown hHeld1.1 hg hHeld1.2.1, Nat.lt_of_lt_of_le hHeld1.2.1 hg.2.2, grown_trans hHeld1.2.2 hg⟩ (fun hHeld2 => ?_)
  clear hK K hHeld1 hg
  refine wpAnyH_ready (rs := [4]) (by kernel_rfl) (by simp) ?_
  refine AllReadyH.cons rfl (fun K hK => ?_) AllReadyH.nil
  go_simp
  refine hK.out _ _ hHeld2 (fun _ => ?_)
  clear hK K
  refine wpAnyH_ready (rs := [5]) (by kernel_rfl) (by simp) ?_
  refine AllReadyH.cons rfl (fun K hK => ?_) AllReadyH.nil
  go_simp
  refine hK.out _ _ hHeld2 (fun _ => ?_)
  clear hK K
  refine wpAnyH_done (by kernel_rfl) ?_ _
  refine NoPanic.normal ?_
  go_wp2
  go_ret
  exact ⟨rfl, hHeld2.2.2⟩
end Go.Proofs.Qxb6602229a

import Derived.Test.Qxb6602229aLex
import Derived.Test.Qxb6602229aZBytes
import Derived.Deep.RegionHeld3
namespace Go.Proofs.Qxb6602229a
open Go.ChangeShapes Go.WideShapes Go.ChangeAt Go.RowKit Plain

/-! ### The plain law -/
theorem be_all (N : Int) (h0 : 0 ≤ N) (h1 : N < 6277101735386680763835789423207666416102355444464034512896) : be (digs N) 0 24 = N := by
  rw [be_digs _ _ _ (by omega)]
  simp only [Nat.reduceSub, Int.pow_zero, Int.ediv_one]
  omega
theorem cmp3_sgn (a0 a1 a2 b0 b1 b2 : Int) (ha : 0 ≤ a0 ∧ a0 ≤ 18446744073709551615 ∧ 0 ≤ a1 ∧ a1 ≤ 18446744073709551615 ∧ 0 ≤ a2 ∧ a2 ≤ 18446744073709551615) (hb : 0 ≤ b0 ∧ b0 ≤ 18446744073709551615 ∧ 0 ≤ b1 ∧ b1 ≤ 18446744073709551615 ∧ 0 ≤ b2 ∧ b2 ≤ 18446744073709551615) :
    cmp3 a0 a1 a2 b0 b1 b2 = sgn (num a0 a1 a2) (num b0 b1 b2) := by
  unfold cmp3 sgn num
  repeat' split
  all_goals omega
theorem lex_cmp (a0 a1 a2 b0 b1 b2 : Int) (ha : 0 ≤ a0 ∧ a0 ≤ 18446744073709551615 ∧ 0 ≤ a1 ∧ a1 ≤ 18446744073709551615 ∧ 0 ≤ a2 ∧ a2 ≤ 18446744073709551615) (hb : 0 ≤ b0 ∧ b0 ≤ 18446744073709551615 ∧ 0 ≤ b1 ∧ b1 ≤ 18446744073709551615 ∧ 0 ≤ b2 ∧ b2 ≤ 18446744073709551615) :
    cmp3 a0 a1 a2 b0 b1 b2 = lexV (digs (num a0 a1 a2)) (digs (num b0 b1 b2)) := by
  rw [cmp3_sgn a0 a1 a2 b0 b1 b2 ha hb, lexV, be_all, be_all]
  all_goals (unfold num; omega)

theorem range3 {w : World} {b : Nat} (a0 a1 a2 : Int) (h0 : w.cell? ⟨b, 0, none⟩ = some (.int .u64 a0)) (h1 : w.cell? ⟨b, 1, none⟩ = some (.int .u64 a1)) (h2 : w.cell? ⟨b, 2, none⟩ = some (.int .u64 a2)) :
    w.rangeAt b 0 [.int .u64 a0, .int .u64 a1, .int .u64 a2] := fun j v hv => by
  match j, hv with
  | 0, hv => simp at hv; rw [← hv]; exact h0
  | 1, hv => simp at hv; rw [← hv]; exact h1
  | 2, hv => simp at hv; rw [← hv]; exact h2
theorem range3_grown {w w' : World} {b : Nat} {cs : List Value} (h : w.rangeAt b 0 cs) (g : Grown w w') (hb : b < w.heap.size) : w'.rangeAt b 0 cs := fun j v hv => by
  rw [grown_cell g (show (⟨b, 0 + j, none⟩ : Addr).block < _ from hb)]
  exact h j v hv
theorem size25o (a b c : Value) : (Try.prog.info? 25).map (·.size) = some ([a, b, c] : List Value).length := by
  have : (Try.prog.info? 25).map (·.size) = some 3 := by kernel_rfl
  exact this

/-- What is known of every world on the way. -/
def OwnAB (w : World) (a0 a1 a2 b0 b1 b2 : Int) (w' : World) : Prop :=
  w'.rangeAt (w.heap.size + 1) 0 [.int .u64 a0, .int .u64 a1, .int .u64 a2] ∧ w'.rangeAt (w.heap.size + 1 + 1 + 1) 0 [.int .u64 b0, .int .u64 b1, .int .u64 b2] ∧ w.heap.size + 4 ≤ w'.heap.size ∧ Grown w w'
theorem OwnAB.grown {w : World} {a0 a1 a2 b0 b1 b2 : Int} {w1 w2 : World} (h : OwnAB w a0 a1 a2 b0 b1 b2 w1) (g : Grown w1 w2) : OwnAB w a0 a1 a2 b0 b1 b2 w2 :=
  ⟨range3_grown h.1 g (by have := h.2.2.1; omega), range3_grown h.2.1 g (by have := h.2.2.1; omega), Nat.le_trans h.2.2.1 g.2.2, grown_trans h.2.2.2 g⟩

set_option maxHeartbeats 2000000 in
theorem order_law (a0 a1 a2 b0 b1 b2 : Int) (w : World) (ha : 0 ≤ a0 ∧ a0 ≤ 18446744073709551615 ∧ 0 ≤ a1 ∧ a1 ≤ 18446744073709551615 ∧ 0 ≤ a2 ∧ a2 ≤ 18446744073709551615) (hb : 0 ≤ b0 ∧ b0 ≤ 18446744073709551615 ∧ 0 ≤ b1 ∧ b1 ≤ 18446744073709551615 ∧ 0 ≤ b2 ∧ b2 ≤ 18446744073709551615) :
    Calls Try.prog 9 #[.int .u64 a0, .int .u64 a1, .int .u64 a2, .int .u64 b0, .int .u64 b1, .int .u64 b2] w fun e w' => e = .returned (.bool true) ∧ Grown w w' := by
  obtain ⟨xs, hxs⟩ : ∃ xs, xs = digs (num a0 a1 a2) := ⟨_, rfl⟩
  obtain ⟨ys, hys⟩ : ∃ ys, ys = digs (num b0 b1 b2) := ⟨_, rfl⟩
  have hc := lex_cmp a0 a1 a2 b0 b1 b2 ha hb
  rw [← hxs, ← hys] at hc
  have A : Hid (∀ w, _) := fun w => zbytes_walk a0 a1 a2 w ha xs hxs
  have B : Hid (∀ w, _) := fun w => zbytes_walk b0 b1 b2 w hb ys hys
  have L : Hid (∀ w, _) := fun w => lex_walk xs ys w (by rw [hxs, digs_length]) (by rw [hys, digs_length]) (by rw [hxs]; exact digs_byte _) (by rw [hys]; exact digs_byte _)
  have C : Hid (∀ w, _) := fun w => cmp_as hc w
  clear hxs hys hc ha hb
  go_enter Try.func9, Try.ntmps9
  go_wp2_with (go_at_call 10; refine (newID _ _ _ _).mono ?_; rintro e w' ⟨rfl, c, rfl⟩)
  refine wp_region_noPanic ?_
  have hS0 : ∀ x y : Array Value, OwnAB w a0 a1 a2 b0 b1 b2 ((((w.alloc (.cells x 25)).alloc (.cells #[.int .u64 a0, .int .u64 a1, .int .u64 a2] 25)).alloc (.cells y 25)).alloc (.cells #[.int .u64 b0, .int .u64 b1, .int .u64 b2] 25)).drew := by
    intro x y
    refine ⟨range3 a0 a1 a2 ?_ ?_ ?_, range3 b0 b1 b2 ?_ ?_ ?_, ?_, (((((Grown.refl _).alloc _ _).alloc _ _).alloc _ _).alloc _ _).drew⟩ <;> simp [go_sem]
  refine wp_region_held_drew (S := OwnAB w a0 a1 a2 b0 b1 b2) (by kernel_rfl) (hS0 _ _) (fun hH => ?_)
  clear hS0
  refine wpAnyH_take (i := 0) (v := .agg #[.int .u64 a0, .int .u64 a1, .int .u64 a2]) rfl (by kernel_rfl) (by kernel_rfl) (by kernel_rfl) (fun _ _ _ h => h) (yieldsIf_load_mid (by rfl) _ _ rfl _ _ rfl [.int .u64 a0, .int .u64 a1, .int .u64 a2] _ (fun _ h => h.1) Try.underlying25 rfl (size25o _ _ _)) hH ?_
  refine wpAnyH_take (i := 2) (v := .agg #[.int .u64 b0, .int .u64 b1, .int .u64 b2]) rfl (by kernel_rfl) (by kernel_rfl) (by kernel_rfl) (fun _ _ _ h => h) (yieldsIf_load_mid (by rfl) _ _ rfl _ _ rfl [.int .u64 b0, .int .u64 b1, .int .u64 b2] _ (fun _ h => h.2.1) Try.underlying25 rfl (size25o _ _ _)) hH ?_
  refine wpAnyH_take (i := 5) (v := .agg #[.int .u64 a0, .int .u64 a1, .int .u64 a2]) rfl (by kernel_rfl) (by kernel_rfl) (by kernel_rfl) (fun _ _ _ h => h) (yieldsIf_load_mid (by rfl) _ _ rfl _ _ rfl [.int .u64 a0, .int .u64 a1, .int .u64 a2] _ (fun _ h => h.1) Try.underlying25 rfl (size25o _ _ _)) hH ?_
  refine wpAnyH_take (i := 6) (v := .agg #[.int .u64 b0, .int .u64 b1, .int .u64 b2]) rfl (by kernel_rfl) (by kernel_rfl) (by kernel_rfl) (fun _ _ _ h => h) (yieldsIf_load_mid (by rfl) _ _ rfl _ _ rfl [.int .u64 b0, .int .u64 b1, .int .u64 b2] _ (fun _ h => h.2.1) Try.underlying25 rfl (size25o _ _ _)) hH ?_
  simp only [Act.put, List.setIfInBounds_toArray]
  refine wpAnyH_ready (rs := [1]) (by kernel_rfl) (by simp) ?_
  refine AllReadyH.cons rfl (fun K hK => ?_) AllReadyH.nil
  go_simp
  refine (A.out _).mono ?_
  rintro e W' ⟨rfl, hg⟩
  have hH1 := hH.grown hg
  refine hK.out _ _ hH1 (fun _ => ?_)
  clear hK K hH hg
  refine wpAnyH_ready (rs := [3]) (by kernel_rfl) (by simp) ?_
  refine AllReadyH.cons rfl (fun K hK => ?_) AllReadyH.nil
  go_simp
  refine (B.out _).mono ?_
  rintro e W' ⟨rfl, hg⟩
  have hH2 := hH1.grown hg
  refine hK.out _ _ hH2 (fun _ => ?_)
  clear hK K hH1 hg
  refine wpAnyH_ready (rs := [4]) (by kernel_rfl) (by simp) ?_
  refine AllReadyH.cons rfl (fun K hK => ?_) AllReadyH.nil
  go_simp
  refine (L.out _).mono ?_
  rintro e W' ⟨rfl, hg⟩
  have hH3 := hH2.grown hg
  refine hK.out _ _ hH3 (fun _ => ?_)
  clear hK K hH2 hg
  refine wpAnyH_ready (rs := [7]) (by kernel_rfl) (by simp) ?_
  refine AllReadyH.cons rfl (fun K hK => ?_) AllReadyH.nil
  go_simp
  refine (C.out _).mono ?_
  rintro e W' ⟨rfl, hg⟩
  have hH4 := hH3.grown hg
  refine hK.out _ _ hH4 (fun _ => ?_)
  clear hK K hH3 hg
  refine wpAnyH_ready (rs := [8]) (by kernel_rfl) (by simp) ?_
  refine AllReadyH.cons rfl (fun K hK => ?_) AllReadyH.nil
  go_simp
  refine hK.out _ _ hH4 (fun _ => ?_)
  clear hK K
  refine wpAnyH_ready (rs := [9]) (by kernel_rfl) (by simp) ?_
  refine AllReadyH.cons rfl (fun K hK => ?_) AllReadyH.nil
  go_simp
  refine hK.out _ _ hH4 (fun _ => ?_)
  clear hK K
  refine wpAnyH_done (by kernel_rfl) ?_ _
  refine NoPanic.normal ?_
  go_wp2
  go_ret
  exact ⟨rfl, hH4.2.2.2⟩
end Go.Proofs.Qxb6602229a

import Derived.Test.Qxb6600264aNumber
namespace Go.Proofs.Qxb6600264a
open Go.ChangeShapes Go.WideShapes Go.ChangeAt Go.RowKit

/-- A text of n bytes z, behind the slice (ao, n, cp), at the head of block g. -/
structure Tx (g n : Nat) (ao : Option Addr) (z : Nat → Int) (w : World) : Prop where
  tx : ∀ j, j < n → w.cell? ⟨g, j, none⟩ = some (.int .u8 (z j))
  gw : 0 < n → g < w.heap.size
  ad : 0 < n → ao = some ⟨g, 0, none⟩
  nm : n ≤ 1048576

set_option maxHeartbeats 1000000 in
/-- ZZNumber. -/
theorem znum_walk {g n : Nat} {ao : Option Addr} {cp : Nat} {z : Nat → Int} {k : Nat} {w : World} (h : Tx g n ao z w) (hk : k ≤ n) :
    Calls Try.prog 8 #[.slice ao n cp, .int .i64 k] w fun e w' => e = .returned (.tuple #[.bool (accF (R z n 0 k).1), .int .i64 ((R z n 0 k).2 : Nat)]) ∧ Below w.heap.size w w' := by
  have N0 : ∀ (p : Nat) (W : World), St p g n ao cp z k W → _ := fun p W hS => number_walk hS
  revert N0
  generalize R z n 0 k = R0
  intro N0
  have N1 : Hid _ := N0
  have H : Hid _ := h
  have HK : Hid (k ≤ n) := hk
  clear h hk N0
  go_enter Try.func8, Try.ntmps8
  go_wp2_with fail
  have S : Hid (St w.heap.size g n ao cp z k (w.alloc (.cells #[.slice ao n cp, .int .i64 k, .slice none 0 0] 30))) :=
    ⟨by simp [go_sem], by simp [go_sem], by simp [go_sem], fun j hj => by rw [World.cell?_alloc_past _ _ _ (H.out.gw (by omega))]; exact H.out.tx j hj, fun h => H.out.gw h, H.out.ad, HK.out, H.out.nm⟩
  refine (N1.out _ _ S.out).mono ?_
  rintro e W1 ⟨rfl, hst, hb⟩
  have hb2 : Below w.heap.size w W1 := ((Below.refl _ _).alloc (Nat.le_refl _) _).trans hb
  have c1 := hst.c1
  clear hst hb S H HK
  go_wp2
  go_quiet (fail)
  go_wp2
  go_ret2
  exact ⟨rfl, below_drewN' hb2 _⟩

theorem model_end {z : Nat → Int} {n j : Nat} {s : Int} {R0 : Int × Nat} (h0 : R z n s j = R0) (h1 : R z n s j = (s, j)) :
    Ending.returned (.tuple #[.bool (accF s), .int .i64 (j : Nat)]) = .returned (.tuple #[.bool (accF R0.1), .int .i64 (R0.2 : Nat)]) := by
  rw [← h0, h1]

set_option maxHeartbeats 1000000 in
/-- numModel. -/
theorem model_walk {g n : Nat} {ao : Option Addr} {cp : Nat} {z : Nat → Int} {k : Nat} {w : World} (h : Tx g n ao z w) (hk : k ≤ n) :
    Calls Try.prog 9 #[.slice ao n cp, .int .i64 k] w fun e w' => e = .returned (.tuple #[.bool (accF (R z n 0 k).1), .int .i64 ((R z n 0 k).2 : Nat)]) ∧ w' = w := by
  generalize hR : R z n 0 k = R0
  have HR : Hid (R z n 0 k = R0) := hR
  have H : Hid _ := h
  have nm := h.nm
  clear hR h
  go_enter Try.func9, Try.ntmps9
  go_wp2
  go_loopg [6, 7] n (fun g' x i wr => ∃ (j : Nat) (s : Int), j ≤ n ∧ n ≤ g' + j ∧ x = .int .i64 s ∧ i = .int .i64 j ∧ Aside (R z n s j = R0 ∧ (s = 0 ∨ s = 1 ∨ s = 2 ∨ s = 3 ∨ s = 4 ∨ s = 5 ∨ s = 6 ∨ s = 7 ∨ s = 8)) ∧ wr = w)
  case atStart => exact ⟨k, 0, hk, by omega, rfl, rfl, ⟨HR.out, .inl rfl⟩, rfl⟩
  case round =>
    obtain ⟨j, s, hj, hg, rfl, rfl, A, rfl⟩ := hrel
    by_cases h0 : j < n
    · obtain rfl := H.out.ad (by omega)
      have tk := H.out.tx j h0
      by_cases h1 : stepF s (z j) = -1
      · have HS : Hid _ := h1
        go_wp2_with (first | (go_at_call 14; refine (step_walk s (z j) _ A.out.2).mono ?_; rintro e w' ⟨rfl, rfl⟩) | (go_at_call 15; refine (acc_walk s _ A.out.2).mono ?_; rintro e w' ⟨rfl, rfl⟩))
        go_ret2
        exact ⟨model_end A.out.1 (R_stop fun x => x.2 HS.out), rfl⟩
      · have HS : Hid _ := h1
        have h1' : (stepF s (z j) == -1) = false := by simpa using h1
        clear h1
        go_wp2_with (go_at_call 14; refine (step_walk s (z j) _ A.out.2).mono ?_; rintro e w' ⟨rfl, rfl⟩)
        go_roundg (gk - 1)
        case measure => omega
        case rel => exact ⟨j + 1, stepF s (z j), by omega, by omega, rfl, by go_num, ⟨by rw [← R_go h0 rfl HS.out]; exact A.out.1, step_states s (z j) A.out.2 HS.out⟩, rfl⟩
    · go_wp2_with (go_at_call 15; refine (acc_walk s _ A.out.2).mono ?_; rintro e w' ⟨rfl, rfl⟩)
      go_ret2
      exact ⟨model_end A.out.1 (R_stop fun x => h0 x.1), rfl⟩
end Go.Proofs.Qxb6600264a

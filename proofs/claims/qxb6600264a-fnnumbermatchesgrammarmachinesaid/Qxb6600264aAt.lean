import Derived.Test.Qxb6600264aPlain
namespace Go.Proofs.Qxb6600264a
open Go.ChangeShapes Go.WideShapes Go.ChangeAt Go.RowKit

/-- The walker lies at block p, at place k of the text z, n bytes long, which lies at block g. -/
structure St (p g n : Nat) (ao : Option Addr) (cp : Nat) (z : Nat → Int) (k : Nat) (w : World) : Prop where
  c0 : w.cell? ⟨p, 0, none⟩ = some (.slice ao n cp)
  c1 : w.cell? ⟨p, 1, none⟩ = some (.int .i64 k)
  f1 : w.frozen? ⟨p, 1, none⟩ = false
  tx : ∀ j, j < n → w.cell? ⟨g, j, none⟩ = some (.int .u8 (z j))
  gp : 0 < n → g < p
  ad : 0 < n → ao = some ⟨g, 0, none⟩
  kn : k ≤ n
  nm : n ≤ 1048576

theorem St.drewN {p g n : Nat} {ao : Option Addr} {cp : Nat} {z : Nat → Int} {k : Nat} {w : World} (h : St p g n ao cp z k w) (m : Nat) : St p g n ao cp z k (w.drewN m) :=
  ⟨h.c0, h.c1, h.f1, h.tx, h.gp, h.ad, h.kn, h.nm⟩
theorem below_drewN' {B : Nat} {a w : World} (h : Below B a w) (m : Nat) : Below B a (w.drewN m) := ⟨h.os, h.tape, h.output, h.size, h.block⟩
theorem St.put {p g n : Nat} {ao : Option Addr} {cp : Nat} {z : Nat → Int} {k : Nat} {w : World} (h : St p g n ao cp z k w) (k' : Nat) (hk : k' ≤ n) : St p g n ao cp z k' (w.setCell ⟨p, 1, none⟩ (.int .i64 k')) := by
  refine ⟨?_, ?_, ?_, fun j hj => ?_, h.gp, h.ad, hk, h.nm⟩
  · rw [World.cell?_setCell_other _ _ _ _ (by simp)]; exact h.c0
  · exact World.cell?_setCell_same' _ _ _ (by rw [h.c1]; rfl)
  · rw [World.frozen?_setCell]; exact h.f1
  · rw [World.cell?_setCell_other _ _ _ _ (by intro e; have := congrArg Addr.block e; have := h.gp (by omega); simp at *; try omega)]
    exact h.tx j hj

set_option maxHeartbeats 1000000 in
theorem at_walk {p g n : Nat} {ao : Option Addr} {cp : Nat} {z : Nat → Int} {k : Nat} {w : World} (h : St p g n ao cp z k w) (c : Int) :
    Calls Try.prog 17 #[.pointer (some ⟨p, 0, none⟩), .int .u8 c] w fun e w' => e = .returned (.bool (atB z n k c)) ∧ St p g n ao cp z k w' ∧ Below p w w' := by
  have H : Hid _ := h
  obtain ⟨c0, c1, f1, tx, gp, ad, kn, nm⟩ := h
  by_cases hk : k < n
  · obtain rfl := ad (by omega)
    have tk := tx k hk
    have hd : (k : Int) < (n : Int) := by omega
    have hd0 : (0 : Int) ≤ (k : Int) := by omega
    clear tx ad f1
    go_enter Try.func17, Try.ntmps17
    go_wp2
    go_quiet (fail)
    go_wp2
    go_ret
    refine ⟨ret_bool ?_, H.out.drewN _, below_drewN' (Below.refl _ _) _⟩
    rw [Bool.eq_iff_iff]
    simp [atB, hk]
  · have hd : decide ((k : Int) < (n : Int)) = false := decide_eq_false (by omega)
    clear tx ad f1
    go_enter Try.func17, Try.ntmps17
    go_wp2
    go_quiet (fail)
    go_wp2
    go_ret
    refine ⟨ret_bool ?_, H.out.drewN _, below_drewN' (Below.refl _ _) _⟩
    simp [atB, hk]

theorem digits_end {p g n : Nat} {ao : Option Addr} {cp : Nat} {z : Nat → Int} {k j : Nat} {w w' : World} (hD : j + D z n j = k + D z n k) (h0 : D z n j = 0) (hs : St p g n ao cp z j w') (hb : Below p w w') :
    Ending.returned (.bool (decide (k < j))) = .returned (.bool (decide (D z n k ≠ 0))) ∧ St p g n ao cp z (k + D z n k) w' ∧ Below p w w' := by
  have e : j = k + D z n k := by omega
  refine ⟨ret_bool ?_, by rw [← e]; exact hs, hb⟩
  rw [Bool.eq_iff_iff]
  simp
  omega

set_option maxHeartbeats 2000000 in
theorem digits_walk {p g n : Nat} {ao : Option Addr} {cp : Nat} {z : Nat → Int} {k : Nat} {w : World} (h : St p g n ao cp z k w) :
    Calls Try.prog 18 #[.pointer (some ⟨p, 0, none⟩)] w fun e w' => e = .returned (.bool (decide (D z n k ≠ 0))) ∧ St p g n ao cp z (k + D z n k) w' ∧ Below p w w' := by
  have H : Hid _ := h
  have c1 := h.c1
  have kn := h.kn
  have nm := h.nm
  clear h
  go_enter Try.func18, Try.ntmps18
  go_wp2
  clear c1
  go_loopg [] n (fun g' wr => ∃ j : Nat, k ≤ j ∧ j ≤ n ∧ n ≤ g' + j ∧ Aside (j + D z n j = k + D z n k) ∧ St p g n ao cp z j wr ∧ Below p w wr)
  case atStart => exact ⟨k, Nat.le_refl _, kn, by omega, rfl, H.out, Below.refl _ _⟩
  case round =>
    obtain ⟨j, hkj, hjn, hgk, hD, hst, hb⟩ := hrel
    have HS : Hid _ := hst
    have HB : Hid _ := hb
    obtain ⟨c0, c1, f1, tx, gp, ad, _, _⟩ := hst
    clear hb
    by_cases hj : j < n
    · obtain rfl := ad (by omega)
      have tk := tx j hj
      have hd : (j : Int) < (n : Int) := by omega
      have hd0 : (0 : Int) ≤ (j : Int) := by omega
      clear tx ad
      by_cases h1 : 48 ≤ z j
      · by_cases h2 : z j ≤ 57
        · go_wp2
          go_quiet (fail)
          go_wp2
          go_roundg (gk - 1)
          case measure => omega
          case rel =>
            have e : (j : Int) + 1 = ((j + 1 : Nat) : Int) := by omega
            rw [e]
            exact ⟨j + 1, by omega, by omega, by omega, by have d := D_go (z := z) (n := n) ⟨hj, h1, h2⟩; have := hD.out; show j + 1 + D z n (j + 1) = _; omega, (HS.out.drewN _).put (j + 1) (by omega), (below_drewN' HB.out _).setCell (Nat.le_refl _) _⟩
        · have h2' : decide (z j ≤ 57) = false := decide_eq_false h2
          go_wp2
          go_quiet (fail)
          go_wp2
          go_ret
          exact digits_end hD.out (D_stop (by omega)) (HS.out.drewN _) (below_drewN' HB.out _)
      · have h1' : decide (48 ≤ z j) = false := decide_eq_false h1
        go_wp2
        go_quiet (fail)
        go_wp2
        go_ret
        exact digits_end hD.out (D_stop (by omega)) (HS.out.drewN _) (below_drewN' HB.out _)
    · have hd : decide ((j : Int) < (n : Int)) = false := decide_eq_false (by omega)
      clear tx ad
      go_wp2
      go_quiet (fail)
      go_wp2
      go_ret
      exact digits_end hD.out (D_stop (by omega)) (HS.out.drewN _) (below_drewN' HB.out _)
end Go.Proofs.Qxb6600264a

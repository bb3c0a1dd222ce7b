import Derived.Test.Qxb6602229aGrown
import Derived.WalkKit
import Derived.ProofKit
import Derived.OpenShut
import Derived.Handy
import Derived.Below
import Derived.Deep.QuietTactic
import Derived.Deep.LoopGhost
import Derived.BigQuiet
import Derived.RegionTactic
namespace Go.Proofs.Qxb6602229a
open Go.ChangeShapes Go.WideShapes Go.ChangeAt Go.RowKit

/-- ZZNewID. -/
theorem newID (a0 a1 a2 : Int) (w : World) :
    Calls Try.prog 10 #[.int .u64 a0, .int .u64 a1, .int .u64 a2] w fun e w' => e = .returned (.agg #[.int .u64 a0, .int .u64 a1, .int .u64 a2]) ∧ ∃ c, w' = w.alloc (.cells c 25) := by
  go_enter Try.func10, Try.ntmps10
  go_wp2
  simp [bodyPost, results, Try.results10, go_sem]
  exact ⟨_, rfl⟩

/-- What Cmp answers. -/
def cmp3 (a0 a1 a2 b0 b1 b2 : Int) : Int :=
  if a2 < b2 then -1 else if b2 < a2 then 1 else if a1 < b1 then -1 else if b1 < a1 then 1 else if a0 < b0 then -1 else if b0 < a0 then 1 else 0



set_option maxHeartbeats 1000000 in
theorem cmp_walk (a0 a1 a2 b0 b1 b2 : Int) (w : World) :
    Calls Try.prog 11 #[.agg #[.int .u64 a0, .int .u64 a1, .int .u64 a2], .agg #[.int .u64 b0, .int .u64 b1, .int .u64 b2]] w fun e w' => e = .returned (.int .i64 (cmp3 a0 a1 a2 b0 b1 b2)) ∧ Grown w w' := by
  have hg : ∀ n, Grown w (((w.alloc (.cells #[.int .u64 a0, .int .u64 a1, .int .u64 a2] 25)).alloc (.cells #[.int .u64 b0, .int .u64 b1, .int .u64 b2] 25)).drewN n) := fun n => grown_drewN (((Grown.refl _).alloc _ _).alloc _ _) n
  go_enter Try.func11, Try.ntmps11
  go_wp2
  go_loopg [5] 3 (fun k i wr => (∃ n, wr = ((w.alloc (.cells #[.int .u64 a0, .int .u64 a1, .int .u64 a2] 25)).alloc (.cells #[.int .u64 b0, .int .u64 b1, .int .u64 b2] 25)).drewN n) ∧
    ((k = 3 ∧ i = .int .i64 2) ∨ (k = 2 ∧ i = .int .i64 1 ∧ a2 = b2) ∨ (k = 1 ∧ i = .int .i64 0 ∧ a2 = b2 ∧ a1 = b1) ∨ (k = 0 ∧ i = .int .i64 (-1) ∧ a2 = b2 ∧ a1 = b1 ∧ a0 = b0)))
  case atStart => exact ⟨⟨0, rfl⟩, .inl ⟨rfl, rfl⟩⟩
  case round =>
    obtain ⟨⟨n, rfl⟩, ⟨rfl, rfl⟩ | ⟨rfl, rfl, rfl⟩ | ⟨rfl, rfl, rfl, rfl⟩ | ⟨rfl, rfl, rfl, rfl, rfl⟩⟩ := hrel
    · by_cases h1 : a2 < b2
      · go_wp2
        go_quiet (fail)
        go_wp2
        go_ret
        exact ⟨ret_int (by simp [cmp3, h1]), grown_drewN (hg _) _⟩
      · by_cases h2 : b2 < a2
        · go_wp2
          go_quiet (fail)
          go_wp2
          go_quiet (fail)
          go_wp2
          go_ret
          exact ⟨ret_int (by simp [cmp3, h1, h2]), grown_drewN (grown_drewN (hg _) _) _⟩
        · go_wp2
          go_quiet (fail)
          go_wp2
          go_quiet (fail)
          go_wp2
          go_roundg 2
          case measure => omega
          case rel => exact ⟨⟨_, rfl⟩, .inr (.inl ⟨rfl, rfl, by omega⟩)⟩
    · by_cases h1 : a1 < b1
      · go_wp2
        go_quiet (fail)
        go_wp2
        go_ret
        exact ⟨ret_int (by simp [cmp3, h1]), grown_drewN (hg _) _⟩
      · by_cases h2 : b1 < a1
        · go_wp2
          go_quiet (fail)
          go_wp2
          go_quiet (fail)
          go_wp2
          go_ret
          exact ⟨ret_int (by simp [cmp3, h1, h2]), grown_drewN (grown_drewN (hg _) _) _⟩
        · go_wp2
          go_quiet (fail)
          go_wp2
          go_quiet (fail)
          go_wp2
          go_roundg 1
          case measure => omega
          case rel => exact ⟨⟨_, rfl⟩, .inr (.inr (.inl ⟨rfl, rfl, trivial, by omega⟩))⟩
    · by_cases h1 : a0 < b0
      · go_wp2
        go_quiet (fail)
        go_wp2
        go_ret
        exact ⟨ret_int (by simp [cmp3, h1]), grown_drewN (hg _) _⟩
      · by_cases h2 : b0 < a0
        · go_wp2
          go_quiet (fail)
          go_wp2
          go_quiet (fail)
          go_wp2
          go_ret
          exact ⟨ret_int (by simp [cmp3, h1, h2]), grown_drewN (grown_drewN (hg _) _) _⟩
        · go_wp2
          go_quiet (fail)
          go_wp2
          go_quiet (fail)
          go_wp2
          go_roundg 0
          case measure => omega
          case rel => exact ⟨⟨_, rfl⟩, .inr (.inr (.inr ⟨rfl, rfl, trivial, trivial, by omega⟩))⟩
    · go_wp2
      go_ret
      exact ⟨ret_int (by simp [cmp3]), hg _⟩

/-- The same, the answer under a name. -/
theorem cmp_as {a0 a1 a2 b0 b1 b2 x : Int} (hx : cmp3 a0 a1 a2 b0 b1 b2 = x) (w : World) :
    Calls Try.prog 11 #[.agg #[.int .u64 a0, .int .u64 a1, .int .u64 a2], .agg #[.int .u64 b0, .int .u64 b1, .int .u64 b2]] w fun e w' => e = .returned (.int .i64 x) ∧ Grown w w' := by
  subst hx
  exact cmp_walk a0 a1 a2 b0 b1 b2 w

/-! ### The plain laws of cmp3 -/
theorem cmp3_three (a0 a1 a2 b0 b1 b2 : Int) : cmp3 a0 a1 a2 b0 b1 b2 = -1 ∨ cmp3 a0 a1 a2 b0 b1 b2 = 0 ∨ cmp3 a0 a1 a2 b0 b1 b2 = 1 := by
  unfold cmp3
  repeat' split
  all_goals omega
theorem cmp3_self (a0 a1 a2 : Int) : cmp3 a0 a1 a2 a0 a1 a2 = 0 := by simp [cmp3]
theorem cmp3_neg (a0 a1 a2 b0 b1 b2 : Int) : cmp3 b0 b1 b2 a0 a1 a2 = -cmp3 a0 a1 a2 b0 b1 b2 := by
  unfold cmp3
  repeat' split
  all_goals omega
theorem cmp3_zero (a0 a1 a2 b0 b1 b2 : Int) : cmp3 a0 a1 a2 b0 b1 b2 = 0 ↔ a0 = b0 ∧ a1 = b1 ∧ a2 = b2 := by
  unfold cmp3
  repeat' split
  all_goals omega
theorem cmp3_le (a0 a1 a2 b0 b1 b2 : Int) : cmp3 a0 a1 a2 b0 b1 b2 ≤ 0 ↔ (a2 < b2 ∨ a2 = b2 ∧ (a1 < b1 ∨ a1 = b1 ∧ a0 ≤ b0)) := by
  unfold cmp3
  repeat' split
  all_goals omega
theorem cmp3_trans (a0 a1 a2 b0 b1 b2 c0 c1 c2 : Int) (h : cmp3 a0 a1 a2 b0 b1 b2 ≤ 0) (k : cmp3 b0 b1 b2 c0 c1 c2 ≤ 0) : cmp3 a0 a1 a2 c0 c1 c2 ≤ 0 := by
  rw [cmp3_le] at *
  omega
theorem cmp3_trans' (a0 a1 a2 b0 b1 b2 c0 c1 c2 : Int) (h : 0 ≤ cmp3 a0 a1 a2 b0 b1 b2) (k : 0 ≤ cmp3 b0 b1 b2 c0 c1 c2) : 0 ≤ cmp3 a0 a1 a2 c0 c1 c2 := by
  have e1 := cmp3_neg a0 a1 a2 b0 b1 b2
  have e2 := cmp3_neg b0 b1 b2 c0 c1 c2
  have e3 := cmp3_neg a0 a1 a2 c0 c1 c2
  have := cmp3_trans c0 c1 c2 b0 b1 b2 a0 a1 a2 (by omega) (by omega)
  omega

end Go.Proofs.Qxb6602229a

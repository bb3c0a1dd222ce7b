import Derived.Test.Qxb6600264aRows
import Derived.WalkKit
import Derived.ProofKit
import Derived.OpenShut
import Derived.Handy
import Derived.Below
import Derived.Deep.QuietTactic
import Derived.Deep.LoopGhost
import Derived.BigQuiet
import Derived.RegionTactic
namespace Go.Proofs.Qxb6600264a
open Go.ChangeShapes Go.WideShapes Go.ChangeAt Go.RowKit

theorem ret_int {k : IntKind} {a b : Int} (h : a = b) : Ending.returned (.int k a) = .returned (.int k b) := by rw [h]
theorem ret_bool {a b : Bool} (h : a = b) : Ending.returned (.bool a) = .returned (.bool b) := by rw [h]

/-! ### numStep's table, a function a state -/
def st0 (c : Int) : Int := if c = 45 then 1 else if c = 48 then 2 else if 48 ≤ c ∧ c ≤ 57 then 3 else -1
def st1 (c : Int) : Int := if c = 48 then 2 else if 48 ≤ c ∧ c ≤ 57 then 3 else -1
def st2 (c : Int) : Int := if c = 46 then 4 else if c = 101 ∨ c = 69 then 6 else -1
def st3 (c : Int) : Int := if 48 ≤ c ∧ c ≤ 57 then 3 else if c = 46 then 4 else if c = 101 ∨ c = 69 then 6 else -1
def st4 (c : Int) : Int := if 48 ≤ c ∧ c ≤ 57 then 5 else -1
def st5 (c : Int) : Int := if 48 ≤ c ∧ c ≤ 57 then 5 else if c = 101 ∨ c = 69 then 6 else -1
def st6 (c : Int) : Int := if c = 43 ∨ c = 45 then 7 else if 48 ≤ c ∧ c ≤ 57 then 8 else -1
def st7 (c : Int) : Int := if 48 ≤ c ∧ c ≤ 57 then 8 else -1
def stepF (s c : Int) : Int :=
  if s = 0 then st0 c else if s = 1 then st1 c else if s = 2 then st2 c else if s = 3 then st3 c else if s = 4 then st4 c else if s = 5 then st5 c else if s = 6 then st6 c else st7 c
theorem stepF_0 (c : Int) : stepF 0 c = st0 c := by simp [stepF]
theorem stepF_1 (c : Int) : stepF 1 c = st1 c := by simp [stepF]
theorem stepF_2 (c : Int) : stepF 2 c = st2 c := by simp [stepF]
theorem stepF_3 (c : Int) : stepF 3 c = st3 c := by simp [stepF]
theorem stepF_4 (c : Int) : stepF 4 c = st4 c := by simp [stepF]
theorem stepF_5 (c : Int) : stepF 5 c = st5 c := by simp [stepF]
theorem stepF_6 (c : Int) : stepF 6 c = st6 c := by simp [stepF]
theorem stepF_7 (c : Int) : stepF 7 c = st7 c := by simp [stepF]
theorem stepF_8 (c : Int) : stepF 8 c = st7 c := by simp [stepF]
def accF (s : Int) : Bool := decide (s = 2 ∨ s = 3 ∨ s = 5 ∨ s = 8)

set_option maxHeartbeats 1000000 in
theorem acc_walk (s : Int) (w : World) (hs : s = 0 ∨ s = 1 ∨ s = 2 ∨ s = 3 ∨ s = 4 ∨ s = 5 ∨ s = 6 ∨ s = 7 ∨ s = 8) :
    Calls Try.prog 15 #[.int .i64 s] w fun e w' => e = .returned (.bool (accF s)) ∧ w' = w := by
  rcases hs with rfl | rfl | rfl | rfl | rfl | rfl | rfl | rfl | rfl
  all_goals
    go_enter Try.func15, Try.ntmps15
    go_wp2
    go_ret
    exact ⟨rfl, rfl⟩

set_option maxHeartbeats 1000000 in
theorem step0 (c : Int) (w : World) :
    Calls Try.prog 14 #[.int .i64 0, .int .u8 c] w fun e w' => e = .returned (.int .i64 (stepF 0 c)) ∧ w' = w := by
  rw [stepF_0]
  go_enter Try.func14, Try.ntmps14
  go_wp2
  all_goals
    go_ret
    refine ⟨ret_int ?_, rfl⟩
    try simp only [beq_iff_eq, beq_eq_false_iff_ne] at *
    unfold st0
    repeat' split
    all_goals omega
set_option maxHeartbeats 1000000 in
theorem step1 (c : Int) (w : World) :
    Calls Try.prog 14 #[.int .i64 1, .int .u8 c] w fun e w' => e = .returned (.int .i64 (stepF 1 c)) ∧ w' = w := by
  rw [stepF_1]
  go_enter Try.func14, Try.ntmps14
  go_wp2
  all_goals
    go_ret
    refine ⟨ret_int ?_, rfl⟩
    try simp only [beq_iff_eq, beq_eq_false_iff_ne] at *
    unfold st1
    repeat' split
    all_goals omega
set_option maxHeartbeats 1000000 in
theorem step2 (c : Int) (w : World) :
    Calls Try.prog 14 #[.int .i64 2, .int .u8 c] w fun e w' => e = .returned (.int .i64 (stepF 2 c)) ∧ w' = w := by
  rw [stepF_2]
  go_enter Try.func14, Try.ntmps14
  go_wp2
  all_goals
    go_ret
    refine ⟨ret_int ?_, rfl⟩
    try simp only [beq_iff_eq, beq_eq_false_iff_ne] at *
    unfold st2
    repeat' split
    all_goals omega
set_option maxHeartbeats 1000000 in
theorem step3 (c : Int) (w : World) :
    Calls Try.prog 14 #[.int .i64 3, .int .u8 c] w fun e w' => e = .returned (.int .i64 (stepF 3 c)) ∧ w' = w := by
  rw [stepF_3]
  go_enter Try.func14, Try.ntmps14
  go_wp2
  all_goals
    go_ret
    refine ⟨ret_int ?_, rfl⟩
    try simp only [beq_iff_eq, beq_eq_false_iff_ne] at *
    unfold st3
    repeat' split
    all_goals omega
set_option maxHeartbeats 1000000 in
theorem step4 (c : Int) (w : World) :
    Calls Try.prog 14 #[.int .i64 4, .int .u8 c] w fun e w' => e = .returned (.int .i64 (stepF 4 c)) ∧ w' = w := by
  rw [stepF_4]
  go_enter Try.func14, Try.ntmps14
  go_wp2
  all_goals
    go_ret
    refine ⟨ret_int ?_, rfl⟩
    try simp only [beq_iff_eq, beq_eq_false_iff_ne] at *
    unfold st4
    repeat' split
    all_goals omega
set_option maxHeartbeats 1000000 in
theorem step5 (c : Int) (w : World) :
    Calls Try.prog 14 #[.int .i64 5, .int .u8 c] w fun e w' => e = .returned (.int .i64 (stepF 5 c)) ∧ w' = w := by
  rw [stepF_5]
  go_enter Try.func14, Try.ntmps14
  go_wp2
  all_goals
    go_ret
    refine ⟨ret_int ?_, rfl⟩
    try simp only [beq_iff_eq, beq_eq_false_iff_ne] at *
    unfold st5
    repeat' split
    all_goals omega
set_option maxHeartbeats 1000000 in
theorem step6 (c : Int) (w : World) :
    Calls Try.prog 14 #[.int .i64 6, .int .u8 c] w fun e w' => e = .returned (.int .i64 (stepF 6 c)) ∧ w' = w := by
  rw [stepF_6]
  go_enter Try.func14, Try.ntmps14
  go_wp2
  all_goals
    go_ret
    refine ⟨ret_int ?_, rfl⟩
    try simp only [beq_iff_eq, beq_eq_false_iff_ne] at *
    unfold st6
    repeat' split
    all_goals omega
set_option maxHeartbeats 1000000 in
theorem step7 (c : Int) (w : World) :
    Calls Try.prog 14 #[.int .i64 7, .int .u8 c] w fun e w' => e = .returned (.int .i64 (stepF 7 c)) ∧ w' = w := by
  rw [stepF_7]
  go_enter Try.func14, Try.ntmps14
  go_wp2
  all_goals
    go_ret
    refine ⟨ret_int ?_, rfl⟩
    try simp only [beq_iff_eq, beq_eq_false_iff_ne] at *
    unfold st7
    repeat' split
    all_goals omega
set_option maxHeartbeats 1000000 in
theorem step8 (c : Int) (w : World) :
    Calls Try.prog 14 #[.int .i64 8, .int .u8 c] w fun e w' => e = .returned (.int .i64 (stepF 8 c)) ∧ w' = w := by
  rw [stepF_8]
  go_enter Try.func14, Try.ntmps14
  go_wp2
  all_goals
    go_ret
    refine ⟨ret_int ?_, rfl⟩
    try simp only [beq_iff_eq, beq_eq_false_iff_ne] at *
    unfold st7
    repeat' split
    all_goals omega
theorem step_walk (s c : Int) (w : World) (hs : s = 0 ∨ s = 1 ∨ s = 2 ∨ s = 3 ∨ s = 4 ∨ s = 5 ∨ s = 6 ∨ s = 7 ∨ s = 8) :
    Calls Try.prog 14 #[.int .i64 s, .int .u8 c] w fun e w' => e = .returned (.int .i64 (stepF s c)) ∧ w' = w := by
  rcases hs with rfl | rfl | rfl | rfl | rfl | rfl | rfl | rfl | rfl
  · exact step0 c w
  · exact step1 c w
  · exact step2 c w
  · exact step3 c w
  · exact step4 c w
  · exact step5 c w
  · exact step6 c w
  · exact step7 c w
  · exact step8 c w
theorem step_states (s c : Int) (hs : s = 0 ∨ s = 1 ∨ s = 2 ∨ s = 3 ∨ s = 4 ∨ s = 5 ∨ s = 6 ∨ s = 7 ∨ s = 8) (h : stepF s c ≠ -1) :
    stepF s c = 0 ∨ stepF s c = 1 ∨ stepF s c = 2 ∨ stepF s c = 3 ∨ stepF s c = 4 ∨ stepF s c = 5 ∨ stepF s c = 6 ∨ stepF s c = 7 ∨ stepF s c = 8 := by
  revert h
  rcases hs with rfl | rfl | rfl | rfl | rfl | rfl | rfl | rfl | rfl
  · rw [stepF_0]; unfold st0; repeat' split
    all_goals omega
  · rw [stepF_1]; unfold st1; repeat' split
    all_goals omega
  · rw [stepF_2]; unfold st2; repeat' split
    all_goals omega
  · rw [stepF_3]; unfold st3; repeat' split
    all_goals omega
  · rw [stepF_4]; unfold st4; repeat' split
    all_goals omega
  · rw [stepF_5]; unfold st5; repeat' split
    all_goals omega
  · rw [stepF_6]; unfold st6; repeat' split
    all_goals omega
  · rw [stepF_7]; unfold st7; repeat' split
    all_goals omega
  · rw [stepF_8]; unfold st7; repeat' split
    all_goals omega
end Go.Proofs.Qxb6600264a

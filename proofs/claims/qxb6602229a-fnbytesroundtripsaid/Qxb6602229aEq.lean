import Derived.Test.Qxb6602229aGrown
import Derived.ChangeKeysEq
namespace Go.Proofs.Qxb6602229a
open Go.ChangeShapes Go.WideShapes Go.ChangeAt Go.RowKit

theorem cells22 : Try.prog.cellsOf 22 = 1 := by kernel_rfl
theorem info22 : ∃ i, Try.prog.info? 22 = some i := by
  cases h : Try.prog.info? 22 with
  | some i => exact ⟨i, rfl⟩
  | none => have := cells22; simp [Program.cellsOf, h] at this
theorem part23 (a0 a1 a2 : Int) (w : World) : (part 23 #[.int .u64 a0, .int .u64 a1, .int .u64 a2] 0).run Try.prog w = .ok (.agg #[.int .u64 a0, .int .u64 a1, .int .u64 a2]) w := by kernel_rfl
theorem eq_words (a0 a1 a2 b0 b1 b2 : Int) (d : Nat) (w : World) :
    (Op.equalIn (d + 2) 23 (.agg #[.int .u64 a0, .int .u64 a1, .int .u64 a2]) (.agg #[.int .u64 b0, .int .u64 b1, .int .u64 b2])).run Try.prog w = .ok (decide (a0 = b0 ∧ a1 = b1 ∧ a2 = b2)) w := by
  obtain ⟨i, hi⟩ := info22
  have pt : ∀ (xs : Array Value) (o : Nat) (v : Value) (w : World), xs[o]? = some v → (part 22 xs o).run Try.prog w = .ok v w := by
    intro xs o v w h
    simp [part, isAgg, run_underlying Try.underlying22, h]
  have pa0 : ∀ w, (part 22 #[.int .u64 a0, .int .u64 a1, .int .u64 a2] 0).run Try.prog w = .ok (.int .u64 a0) w := fun w => pt _ _ _ w rfl
  have pa1 : ∀ w, (part 22 #[.int .u64 a0, .int .u64 a1, .int .u64 a2] 1).run Try.prog w = .ok (.int .u64 a1) w := fun w => pt _ _ _ w rfl
  have pa2 : ∀ w, (part 22 #[.int .u64 a0, .int .u64 a1, .int .u64 a2] 2).run Try.prog w = .ok (.int .u64 a2) w := fun w => pt _ _ _ w rfl
  have pb0 : ∀ w, (part 22 #[.int .u64 b0, .int .u64 b1, .int .u64 b2] 0).run Try.prog w = .ok (.int .u64 b0) w := fun w => pt _ _ _ w rfl
  have pb1 : ∀ w, (part 22 #[.int .u64 b0, .int .u64 b1, .int .u64 b2] 1).run Try.prog w = .ok (.int .u64 b1) w := fun w => pt _ _ _ w rfl
  have pb2 : ∀ w, (part 22 #[.int .u64 b0, .int .u64 b1, .int .u64 b2] 2).run Try.prog w = .ok (.int .u64 b2) w := fun w => pt _ _ _ w rfl
  have eq : ∀ (a b : Int) (w : World), (Op.equalIn (d + 1) 22 (.int .u64 a) (.int .u64 b)).run Try.prog w = .ok (a == b) w := fun a b w => run_equalIn_int w d 22 .u64 .u64 a b Try.underlying22
  rw [run_equalIn_array w (d + 1) _ _ Try.underlying23 hi, cells22]
  have r3 : List.range 3 = [0, 1, 2] := rfl
  simp only [r3, Op.eqItems, Sem.run_bind, Nat.mul_one, pa0, pb0, Result.andThen_ok, eq]
  by_cases h0 : (a0 == b0) = true
  · by_cases h1 : (a1 == b1) = true
    · by_cases h2 : (a2 == b2) = true
      · simp only [h0, Bool.not_true, Bool.false_eq_true, if_false, Sem.run_bind, pa1, pb1, Result.andThen_ok, eq, h1, pa2, pb2, h2, Sem.run_pure]
        simp at h0 h1 h2
        simp [h0, h1, h2]
      · simp only [h0, Bool.not_true, Bool.false_eq_true, if_false, Sem.run_bind, pa1, pb1, Result.andThen_ok, eq, h1, pa2, pb2, h2]
        simp at h0 h1 h2
        simp [h0, h1, h2]
    · simp only [h0, Bool.not_true, Bool.false_eq_true, if_false, Sem.run_bind, pa1, pb1, Result.andThen_ok, eq, h1]
      simp at h0 h1
      simp [h0, h1]
  · simp at h0
    simp [h0]
theorem eq_id (a0 a1 a2 b0 b1 b2 : Int) (w : World) :
    (Op.equalIn 10000 25 (.agg #[.int .u64 a0, .int .u64 a1, .int .u64 a2]) (.agg #[.int .u64 b0, .int .u64 b1, .int .u64 b2])).run Try.prog w = .ok (decide (a0 = b0 ∧ a1 = b1 ∧ a2 = b2)) w := by
  have ef : Try.prog.underlying 25 = some (.struct (Try.prog.fieldsOf 25)) := by simp [Program.fieldsOf, Try.underlying25]
  rw [run_equalIn_struct w 9999 25 _ _ ef Try.stoodInHeld25]
  have e := fun w => eq_words a0 a1 a2 b0 b1 b2 9997 w
  simp [Program.fieldsOf, Try.underlying25, Op.eqFields, part23, e]
  by_cases h0 : a0 = b0 <;> by_cases h1 : a1 = b1 <;> by_cases h2 : a2 = b2 <;> simp [h0, h1, h2]
end Go.Proofs.Qxb6602229a

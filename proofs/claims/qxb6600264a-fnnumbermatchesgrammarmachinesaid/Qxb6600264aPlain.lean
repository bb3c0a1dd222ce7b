import Derived.Test.Qxb6600264aLeaf
namespace Go.Proofs.Qxb6600264a

/-! ### The machine run greedily, and runs of digits: no Go in sight. z: the bytes, n: how many. -/
def run (z : Nat → Int) (n : Nat) : Nat → Int → Nat → Int × Nat
  | 0, s, j => (s, j)
  | f + 1, s, j => if j < n ∧ stepF s (z j) ≠ -1 then run z n f (stepF s (z j)) (j + 1) else (s, j)
def R (z : Nat → Int) (n : Nat) (s : Int) (j : Nat) : Int × Nat := run z n (n - j) s j
theorem R_go {z : Nat → Int} {n : Nat} {s t : Int} {j : Nat} (h : j < n) (ht : stepF s (z j) = t) (h1 : t ≠ -1) : R z n s j = R z n t (j + 1) := by
  unfold R
  rw [show n - j = (n - (j + 1)) + 1 by omega, run, if_pos ⟨h, by rw [ht]; exact h1⟩, ht]
theorem R_stop {z : Nat → Int} {n : Nat} {s : Int} {j : Nat} (h : ¬ (j < n ∧ stepF s (z j) ≠ -1)) : R z n s j = (s, j) := by
  unfold R
  cases hn : n - j with
  | zero => rfl
  | succ f => rw [run, if_neg h]
def dg (z : Nat → Int) (n : Nat) : Nat → Nat → Nat
  | 0, _ => 0
  | f + 1, j => if j < n ∧ 48 ≤ z j ∧ z j ≤ 57 then dg z n f (j + 1) + 1 else 0
def D (z : Nat → Int) (n : Nat) (j : Nat) : Nat := dg z n (n - j) j
theorem D_go {z : Nat → Int} {n j : Nat} (h : j < n ∧ 48 ≤ z j ∧ z j ≤ 57) : D z n j = D z n (j + 1) + 1 := by
  unfold D
  rw [show n - j = (n - (j + 1)) + 1 by omega, dg, if_pos h]
theorem D_stop {z : Nat → Int} {n j : Nat} (h : ¬ (j < n ∧ 48 ≤ z j ∧ z j ≤ 57)) : D z n j = 0 := by
  unfold D
  cases hn : n - j with
  | zero => rfl
  | succ f => rw [dg, if_neg h]
theorem D_le (z : Nat → Int) (n : Nat) : ∀ f j, n - j = f → j ≤ n → j + D z n j ≤ n
  | 0, j, h, hj => by rw [D_stop (by omega)]; omega
  | f + 1, j, h, hj => by
    by_cases hd : j < n ∧ 48 ≤ z j ∧ z j ≤ 57
    · have := D_le z n f (j + 1) (by omega) (by omega)
      rw [D_go hd]
      omega
    · rw [D_stop hd]; omega
theorem D_end (z : Nat → Int) (n : Nat) : ∀ f j, n - j = f → ¬ (j + D z n j < n ∧ 48 ≤ z (j + D z n j) ∧ z (j + D z n j) ≤ 57)
  | 0, j, h => by rw [D_stop (by omega)]; omega
  | f + 1, j, h => by
    by_cases hd : j < n ∧ 48 ≤ z j ∧ z j ≤ 57
    · have := D_end z n f (j + 1) (by omega)
      rw [D_go hd, show j + (D z n (j + 1) + 1) = j + 1 + D z n (j + 1) by omega]
      exact this
    · rw [D_stop hd]; exact hd
theorem D_pos {z : Nat → Int} {n j : Nat} (h : D z n j ≠ 0) : j < n ∧ 48 ≤ z j ∧ z j ≤ 57 := by
  by_cases hd : j < n ∧ 48 ≤ z j ∧ z j ≤ 57
  · exact hd
  · exact absurd (D_stop hd) h
theorem D_zero {z : Nat → Int} {n j : Nat} (h : D z n j = 0) : ¬ (j < n ∧ 48 ≤ z j ∧ z j ≤ 57) := fun hd => by
  rw [D_go hd] at h; omega
/-- A state that stays on digits runs past them. -/
theorem R_digits (z : Nat → Int) (n : Nat) (s : Int) (hs : ∀ c : Int, 48 ≤ c → c ≤ 57 → stepF s c = s) (h1 : s ≠ -1) : ∀ f j, n - j = f → R z n s j = R z n s (j + D z n j)
  | 0, j, h => by rw [D_stop (by omega)]; rfl
  | f + 1, j, h => by
    by_cases hd : j < n ∧ 48 ≤ z j ∧ z j ≤ 57
    · rw [R_go hd.1 (hs _ hd.2.1 hd.2.2) h1, R_digits z n s hs h1 f (j + 1) (by omega), D_go hd, show j + (D z n (j + 1) + 1) = j + 1 + D z n (j + 1) by omega]
    · rw [D_stop hd]; rfl
/-- A first digit, then more of them. -/
theorem R_first {z : Nat → Int} {n : Nat} {s t : Int} {j : Nat} (hd : D z n j ≠ 0) (h0 : stepF s (z j) = t) (ht : ∀ c : Int, 48 ≤ c → c ≤ 57 → stepF t c = t) (h1 : t ≠ -1) : R z n s j = R z n t (j + D z n j) := by
  have hp := D_pos hd
  rw [R_go hp.1 h0 h1, R_digits z n t ht h1 _ (j + 1) rfl, D_go hp, show j + (D z n (j + 1) + 1) = j + 1 + D z n (j + 1) by omega]

theorem stay3 (c : Int) (h0 : 48 ≤ c) (h1 : c ≤ 57) : stepF 3 c = 3 := by rw [stepF_3]; unfold st3; rw [if_pos ⟨h0, h1⟩]
theorem stay5 (c : Int) (h0 : 48 ≤ c) (h1 : c ≤ 57) : stepF 5 c = 5 := by rw [stepF_5]; unfold st5; rw [if_pos ⟨h0, h1⟩]
theorem stay8 (c : Int) (h0 : 48 ≤ c) (h1 : c ≤ 57) : stepF 8 c = 8 := by rw [stepF_8]; unfold st7; rw [if_pos ⟨h0, h1⟩]

/-- Does the text bear c at j? -/
def atB (z : Nat → Int) (n j : Nat) (c : Int) : Bool := decide (j < n ∧ z j = c)
theorem atB_true {z : Nat → Int} {n j : Nat} {c : Int} (h : atB z n j c = true) : j < n ∧ z j = c := by simpa [atB] using h
theorem atB_false {z : Nat → Int} {n j : Nat} {c : Int} (h : atB z n j c = false) : ¬ (j < n ∧ z j = c) := by simpa [atB] using h

/-! ### number, stage by stage. R0: what the machine does from the start. -/
/-- A minus sign. -/
theorem sg1 {z : Nat → Int} {n k : Nat} (h : atB z n k 45 = true) : R z n 0 k = R z n 1 (k + 1) := by
  obtain ⟨h1, h2⟩ := atB_true h
  exact R_go h1 (by rw [stepF_0, h2]; rfl) (by decide)
/-- Behind the sign: the state is 1, or 0 with no sign there. -/
def Sg (z : Nat → Int) (n : Nat) (s : Int) (k : Nat) : Prop := s = 1 ∨ (s = 0 ∧ atB z n k 45 = false)
theorem in_zero {z : Nat → Int} {n k : Nat} {s : Int} (hs : Sg z n s k) (h : atB z n k 48 = true) : R z n s k = R z n 2 (k + 1) := by
  obtain ⟨h1, h2⟩ := atB_true h
  rcases hs with rfl | ⟨rfl, _⟩
  · exact R_go h1 (by rw [stepF_1, h2]; rfl) (by decide)
  · exact R_go h1 (by rw [stepF_0, h2]; rfl) (by decide)
theorem in_none {z : Nat → Int} {n k : Nat} {s : Int} (hs : Sg z n s k) (h : atB z n k 48 = false) (hd : D z n k = 0) : R z n s k = (s, k) ∧ accF s = false := by
  have a := atB_false h
  have d := D_zero hd
  rcases hs with rfl | ⟨rfl, hm⟩
  · refine ⟨R_stop fun e => e.2 ?_, rfl⟩
    rw [stepF_1]; unfold st1
    rw [if_neg (by omega), if_neg (by omega)]
  · have m := atB_false hm
    refine ⟨R_stop fun e => e.2 ?_, rfl⟩
    rw [stepF_0]; unfold st0
    rw [if_neg (by omega), if_neg (by omega), if_neg (by omega)]
theorem in_digits {z : Nat → Int} {n k : Nat} {s : Int} (hs : Sg z n s k) (h : atB z n k 48 = false) (hd : D z n k ≠ 0) : R z n s k = R z n 3 (k + D z n k) := by
  have a := atB_false h
  have d := D_pos hd
  rcases hs with rfl | ⟨rfl, hm⟩
  · refine R_first hd ?_ stay3 (by decide)
    rw [stepF_1]; unfold st1
    rw [if_neg (by omega), if_pos (by omega)]
  · refine R_first hd ?_ stay3 (by decide)
    rw [stepF_0]; unfold st0
    rw [if_neg (by omega), if_neg (by omega), if_pos (by omega)]
/-- Behind the integer part. -/
def In (z : Nat → Int) (n : Nat) (s : Int) (k : Nat) : Prop := s = 2 ∨ (s = 3 ∧ ¬ (k < n ∧ 48 ≤ z k ∧ z k ≤ 57))
theorem fr_dot {z : Nat → Int} {n k : Nat} {s : Int} (hs : In z n s k) (h : atB z n k 46 = true) : R z n s k = R z n 4 (k + 1) := by
  obtain ⟨h1, h2⟩ := atB_true h
  rcases hs with rfl | ⟨rfl, _⟩
  · exact R_go h1 (by rw [stepF_2, h2]; rfl) (by decide)
  · exact R_go h1 (by rw [stepF_3, h2]; rfl) (by decide)
theorem fr_none {z : Nat → Int} {n k : Nat} (hd : D z n k = 0) : R z n 4 k = (4, k) := by
  have d := D_zero hd
  refine R_stop fun e => e.2 ?_
  rw [stepF_4]; unfold st4
  rw [if_neg (by omega)]
theorem fr_digits {z : Nat → Int} {n k : Nat} (hd : D z n k ≠ 0) : R z n 4 k = R z n 5 (k + D z n k) := by
  have d := D_pos hd
  refine R_first hd ?_ stay5 (by decide)
  rw [stepF_4]; unfold st4
  rw [if_pos (by omega)]
/-- Behind the fraction. -/
def Fr (z : Nat → Int) (n : Nat) (s : Int) (k : Nat) : Prop :=
  (s = 2 ∧ atB z n k 46 = false) ∨ (s = 3 ∧ atB z n k 46 = false ∧ ¬ (k < n ∧ 48 ≤ z k ∧ z k ≤ 57)) ∨ (s = 5 ∧ ¬ (k < n ∧ 48 ≤ z k ∧ z k ≤ 57))
theorem ex_e {z : Nat → Int} {n k : Nat} {s : Int} (hs : Fr z n s k) (h : atB z n k 101 = true ∨ atB z n k 69 = true) : R z n s k = R z n 6 (k + 1) := by
  have h' : k < n ∧ (z k = 101 ∨ z k = 69) := by
    rcases h with h | h
    · have := atB_true h; exact ⟨this.1, .inl this.2⟩
    · have := atB_true h; exact ⟨this.1, .inr this.2⟩
  rcases hs with ⟨rfl, _⟩ | ⟨rfl, _, _⟩ | ⟨rfl, _⟩
  · refine R_go h'.1 ?_ (by decide)
    rw [stepF_2]; unfold st2
    rw [if_neg (by omega), if_pos h'.2]
  · refine R_go h'.1 ?_ (by decide)
    rw [stepF_3]; unfold st3
    rw [if_neg (by omega), if_neg (by omega), if_pos h'.2]
  · refine R_go h'.1 ?_ (by decide)
    rw [stepF_5]; unfold st5
    rw [if_neg (by omega), if_pos h'.2]
theorem ex_none {z : Nat → Int} {n k : Nat} {s : Int} (hs : Fr z n s k) (h1 : atB z n k 101 = false) (h2 : atB z n k 69 = false) : R z n s k = (s, k) ∧ accF s = true := by
  have a := atB_false h1
  have b := atB_false h2
  rcases hs with ⟨rfl, hm⟩ | ⟨rfl, hm, hd⟩ | ⟨rfl, hd⟩
  · have m := atB_false hm
    refine ⟨R_stop fun e => e.2 ?_, rfl⟩
    rw [stepF_2]; unfold st2
    rw [if_neg (by omega), if_neg (by omega)]
  · have m := atB_false hm
    refine ⟨R_stop fun e => e.2 ?_, rfl⟩
    rw [stepF_3]; unfold st3
    rw [if_neg (by omega), if_neg (by omega), if_neg (by omega)]
  · refine ⟨R_stop fun e => e.2 ?_, rfl⟩
    rw [stepF_5]; unfold st5
    rw [if_neg (by omega), if_neg (by omega)]
theorem ex_sign {z : Nat → Int} {n k : Nat} (h : atB z n k 43 = true ∨ atB z n k 45 = true) : R z n 6 k = R z n 7 (k + 1) := by
  have h' : k < n ∧ (z k = 43 ∨ z k = 45) := by
    rcases h with h | h
    · have := atB_true h; exact ⟨this.1, .inl this.2⟩
    · have := atB_true h; exact ⟨this.1, .inr this.2⟩
  refine R_go h'.1 ?_ (by decide)
  rw [stepF_6]; unfold st6
  rw [if_pos h'.2]
/-- Behind the exponent's sign. -/
def Es (z : Nat → Int) (n : Nat) (s : Int) (k : Nat) : Prop := s = 7 ∨ (s = 6 ∧ atB z n k 43 = false ∧ atB z n k 45 = false)
theorem es_none {z : Nat → Int} {n k : Nat} {s : Int} (hs : Es z n s k) (hd : D z n k = 0) : R z n s k = (s, k) ∧ accF s = false := by
  have d := D_zero hd
  rcases hs with rfl | ⟨rfl, h1, h2⟩
  · refine ⟨R_stop fun e => e.2 ?_, rfl⟩
    rw [stepF_7]; unfold st7
    rw [if_neg (by omega)]
  · have a := atB_false h1
    have b := atB_false h2
    refine ⟨R_stop fun e => e.2 ?_, rfl⟩
    rw [stepF_6]; unfold st6
    rw [if_neg (by omega), if_neg (by omega)]
theorem es_digits {z : Nat → Int} {n k : Nat} {s : Int} (hs : Es z n s k) (hd : D z n k ≠ 0) : R z n s k = (8, k + D z n k) := by
  have d := D_pos hd
  have e := D_end z n _ k rfl
  have last : R z n 8 (k + D z n k) = (8, k + D z n k) := by
    refine R_stop fun x => x.2 ?_
    rw [stepF_8]; unfold st7
    rw [if_neg (by omega)]
  rw [← last]
  rcases hs with rfl | ⟨rfl, h1, h2⟩
  · refine R_first hd ?_ stay8 (by decide)
    rw [stepF_7]; unfold st7
    rw [if_pos (by omega)]
  · have a := atB_false h1
    have b := atB_false h2
    refine R_first hd ?_ stay8 (by decide)
    rw [stepF_6]; unfold st6
    rw [if_neg (by omega), if_pos (by omega)]
end Go.Proofs.Qxb6600264a

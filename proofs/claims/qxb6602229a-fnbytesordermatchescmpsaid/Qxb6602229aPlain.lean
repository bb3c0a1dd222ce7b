/-
  THE PLAIN LAWS on bytes and words: no Go in sight.
-/
namespace Go.Proofs.Qxb6602229a.Plain
/-- The number of an ID. -/
def num (w0 w1 w2 : Int) : Int := w0 + w1 * 18446744073709551616 + w2 * 340282366920938463463374607431768211456
/-- The bytes of N, highest first. -/
def digs (N : Int) : List Int := (List.range 24).map fun k => N / 256 ^ (23 - k) % 256
/-- n bytes from place o on, read as a number, highest first. -/
def be (zs : List Int) (o : Nat) : Nat → Int
  | 0 => 0
  | n + 1 => be zs o n * 256 + zs[o + n]?.getD 0

theorem pow_pos (n : Nat) : (0 : Int) < 256 ^ n := Int.pow_pos (by decide)
theorem div_pow_add (N : Int) (s t : Nat) : N / 256 ^ (s + t) = N / 256 ^ s / 256 ^ t := by
  rw [Int.pow_add, Int.ediv_ediv_of_nonneg (Int.le_of_lt (pow_pos s))]
theorem div_pow_succ (N : Int) (t : Nat) : N / 256 ^ (t + 1) = N / 256 ^ t / 256 := by
  rw [div_pow_add]; rfl

theorem digs_length (N : Int) : (digs N).length = 24 := by simp [digs]
theorem digs_get (N : Int) (k : Nat) (h : k < 24) : (digs N)[k]?.getD 0 = N / 256 ^ (23 - k) % 256 := by
  simp [digs, h]
theorem digs_byte (N : Int) (k : Nat) : 0 ≤ (digs N)[k]?.getD 0 ∧ (digs N)[k]?.getD 0 ≤ 255 := by
  by_cases h : k < 24
  · rw [digs_get N k h]; omega
  · rw [List.getElem?_eq_none (by rw [digs_length]; omega)]; simp

theorem emod_split (M P : Int) : (M / 256 % P) * 256 + M % 256 = M % (P * 256) := by
  have e1 : M / (P * 256) = M / 256 / P := by rw [Int.mul_comm, Int.ediv_ediv_of_nonneg (by decide)]
  rw [Int.emod_def M (P * 256), e1, Int.emod_def (M / 256) P, Int.emod_def M 256]
  generalize M / 256 / P = q
  have : P * 256 * q = P * q * 256 := by rw [Int.mul_assoc, Int.mul_comm 256 q, Int.mul_assoc]
  rw [this]
  generalize P * q = r
  omega

theorem be_digs (N : Int) (o n : Nat) (h : o + n ≤ 24) : be (digs N) o n = N / 256 ^ (24 - o - n) % 256 ^ n := by
  induction n with
  | zero => simp [be, Int.emod_one]
  | succ n ih =>
    rw [be, ih (by omega), digs_get N (o + n) (by omega)]
    have e1 : 24 - o - n = (24 - o - (n + 1)) + 1 := by omega
    have e2 : 23 - (o + n) = 24 - o - (n + 1) := by omega
    rw [e1, e2, div_pow_succ, Int.pow_succ, emod_split]

theorem be_add (zs : List Int) (o m n : Nat) : be zs o (m + n) = be zs o m * 256 ^ n + be zs (o + m) n := by
  induction n with
  | zero => simp [be]
  | succ n ih =>
    rw [← Nat.add_assoc, be, ih, be, Int.pow_succ, Int.add_mul, Int.mul_assoc, Nat.add_assoc o m n]
    omega

theorem be_range (zs : List Int) (hz : ∀ k : Nat, 0 ≤ zs[k]?.getD 0 ∧ zs[k]?.getD 0 ≤ 255) (o n : Nat) : 0 ≤ be zs o n ∧ be zs o n < 256 ^ n := by
  induction n with
  | zero => simp [be]
  | succ n ih =>
    have := hz (o + n)
    rw [be, Int.pow_succ]
    omega

/-- The number's own bytes are the bytes that it was read from. -/
theorem digs_be (zs : List Int) (hl : zs.length = 24) (hz : ∀ k : Nat, 0 ≤ zs[k]?.getD 0 ∧ zs[k]?.getD 0 ≤ 255) : digs (be zs 0 24) = zs := by
  apply List.ext_getElem?
  intro k
  by_cases h : k < 24
  · have e := digs_get (be zs 0 24) k h
    have g1 : (digs (be zs 0 24))[k]? = some ((digs (be zs 0 24))[k]?.getD 0) := by
      rw [List.getElem?_eq_getElem (by rw [digs_length]; exact h)]; rfl
    have g2 : zs[k]? = some (zs[k]?.getD 0) := by
      rw [List.getElem?_eq_getElem (by omega)]; rfl
    rw [g1, g2, e]
    have a := be_add zs 0 (k + 1) (23 - k)
    rw [show k + 1 + (23 - k) = 24 by omega] at a
    have r := be_range zs hz (0 + (k + 1)) (23 - k)
    have hd : be zs 0 24 / 256 ^ (23 - k) = be zs 0 (k + 1) := by
      rw [a, Int.add_comm, Int.add_mul_ediv_right _ _ (by have := pow_pos (23 - k); omega), Int.ediv_eq_zero_of_lt r.1 r.2]
      simp
    rw [hd, be]
    have := hz k
    simp only [Nat.zero_add]
    congr 1
    omega
  · rw [List.getElem?_eq_none (by rw [digs_length]; omega), List.getElem?_eq_none (by omega)]

/-- The words of the number that the bytes are. -/
theorem be_words (zs : List Int) : be zs 0 24 = num (be zs 16 8) (be zs 8 8) (be zs 0 8) := by
  have a := be_add zs 0 8 16
  have b := be_add zs 8 8 8
  simp only [Nat.zero_add, Nat.reduceAdd] at a b
  rw [a, b, num]
  omega
theorem num_words (w0 w1 w2 : Int) (h0 : 0 ≤ w0) (h0' : w0 < 18446744073709551616) (h1 : 0 ≤ w1) (h1' : w1 < 18446744073709551616) (h2 : 0 ≤ w2) (h2' : w2 < 18446744073709551616) :
    be (digs (num w0 w1 w2)) 16 8 = w0 ∧ be (digs (num w0 w1 w2)) 8 8 = w1 ∧ be (digs (num w0 w1 w2)) 0 8 = w2 := by
  rw [be_digs _ _ _ (by omega), be_digs _ _ _ (by omega), be_digs _ _ _ (by omega)]
  simp only [Nat.reduceSub, num]
  omega

/-- The bytes of the number are the bytes of its words. -/
theorem digs_w2 (w0 w1 w2 : Int) (h0 : 0 ≤ w0) (h0' : w0 < 18446744073709551616) (h1 : 0 ≤ w1) (h1' : w1 < 18446744073709551616) (j : Nat) (hj : j < 8) :
    (digs (num w0 w1 w2))[j]?.getD 0 = w2 / 2 ^ (56 - 8 * j) % 256 := by
  rw [digs_get _ _ (by omega)]
  unfold num
  match j, hj with
  | 0, _ => simp only [Nat.reduceSub, Nat.reduceMul]; omega
  | 1, _ => simp only [Nat.reduceSub, Nat.reduceMul]; omega
  | 2, _ => simp only [Nat.reduceSub, Nat.reduceMul]; omega
  | 3, _ => simp only [Nat.reduceSub, Nat.reduceMul]; omega
  | 4, _ => simp only [Nat.reduceSub, Nat.reduceMul]; omega
  | 5, _ => simp only [Nat.reduceSub, Nat.reduceMul]; omega
  | 6, _ => simp only [Nat.reduceSub, Nat.reduceMul]; omega
  | 7, _ => simp only [Nat.reduceSub, Nat.reduceMul]; omega
theorem digs_w1 (w0 w1 w2 : Int) (h0 : 0 ≤ w0) (h0' : w0 < 18446744073709551616) (j : Nat) (hj : j < 8) :
    (digs (num w0 w1 w2))[8 + j]?.getD 0 = w1 / 2 ^ (56 - 8 * j) % 256 := by
  rw [digs_get _ _ (by omega)]
  unfold num
  match j, hj with
  | 0, _ => simp only [Nat.reduceSub, Nat.reduceMul, Nat.reduceAdd]; omega
  | 1, _ => simp only [Nat.reduceSub, Nat.reduceMul, Nat.reduceAdd]; omega
  | 2, _ => simp only [Nat.reduceSub, Nat.reduceMul, Nat.reduceAdd]; omega
  | 3, _ => simp only [Nat.reduceSub, Nat.reduceMul, Nat.reduceAdd]; omega
  | 4, _ => simp only [Nat.reduceSub, Nat.reduceMul, Nat.reduceAdd]; omega
  | 5, _ => simp only [Nat.reduceSub, Nat.reduceMul, Nat.reduceAdd]; omega
  | 6, _ => simp only [Nat.reduceSub, Nat.reduceMul, Nat.reduceAdd]; omega
  | 7, _ => simp only [Nat.reduceSub, Nat.reduceMul, Nat.reduceAdd]; omega
theorem digs_w0 (w0 w1 w2 : Int) (j : Nat) (hj : j < 8) :
    (digs (num w0 w1 w2))[16 + j]?.getD 0 = w0 / 2 ^ (56 - 8 * j) % 256 := by
  rw [digs_get _ _ (by omega)]
  unfold num
  match j, hj with
  | 0, _ => simp only [Nat.reduceSub, Nat.reduceMul, Nat.reduceAdd]; omega
  | 1, _ => simp only [Nat.reduceSub, Nat.reduceMul, Nat.reduceAdd]; omega
  | 2, _ => simp only [Nat.reduceSub, Nat.reduceMul, Nat.reduceAdd]; omega
  | 3, _ => simp only [Nat.reduceSub, Nat.reduceMul, Nat.reduceAdd]; omega
  | 4, _ => simp only [Nat.reduceSub, Nat.reduceMul, Nat.reduceAdd]; omega
  | 5, _ => simp only [Nat.reduceSub, Nat.reduceMul, Nat.reduceAdd]; omega
  | 6, _ => simp only [Nat.reduceSub, Nat.reduceMul, Nat.reduceAdd]; omega
  | 7, _ => simp only [Nat.reduceSub, Nat.reduceMul, Nat.reduceAdd]; omega

/-- A list of 24, written out. -/
theorem list24 {α : Type} (l : List α) (h : l.length = 24) : ∃ z0 z1 z2 z3 z4 z5 z6 z7 z8 z9 z10 z11 z12 z13 z14 z15 z16 z17 z18 z19 z20 z21 z22 z23, l = [z0, z1, z2, z3, z4, z5, z6, z7, z8, z9, z10, z11, z12, z13, z14, z15, z16, z17, z18, z19, z20, z21, z22, z23] := by
  match l, h with
  | [z0, z1, z2, z3, z4, z5, z6, z7, z8, z9, z10, z11, z12, z13, z14, z15, z16, z17, z18, z19, z20, z21, z22, z23], _ => exact ⟨z0, z1, z2, z3, z4, z5, z6, z7, z8, z9, z10, z11, z12, z13, z14, z15, z16, z17, z18, z19, z20, z21, z22, z23, rfl⟩
end Go.Proofs.Qxb6602229a.Plain

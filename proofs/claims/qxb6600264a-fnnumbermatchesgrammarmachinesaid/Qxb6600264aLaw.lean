import Derived.Test.Qxb6600264aCopy
namespace Go.Proofs.Qxb6600264a
open Go.ChangeShapes Go.WideShapes Go.ChangeAt Go.RowKit

theorem Tx.below {g n : Nat} {ao : Option Addr} {z : Nat → Int} {w w' : World} (h : Tx g n ao z w) (hb : Below w.heap.size w w') : Tx g n ao z w' :=
  ⟨fun j hj => (hb.cell (p := ⟨g, j, none⟩) (h.gw (by omega))).trans (h.tx j hj), fun hn => Nat.lt_of_lt_of_le (h.gw hn) hb.size, h.ad, h.nm⟩

set_option maxHeartbeats 1000000 in
/-- The law, once the copy is made: whatever the copy's contract leaves. -/
theorem law_core {ao : Option Addr} {n cap : Nat} {z : Nat → Int} {k : Nat} {w : World} (hn : n ≤ 1048576) (hk : k ≤ n) {g : Nat} {bo : Option Addr} {bc : Nat}
    (HC : Hid (Calls Try.prog 7 #[.slice ao n cap] w fun e w' => e = .returned (.slice bo n bc) ∧ Tx g n bo z w' ∧ Below w.heap.size w w')) :
    Calls Try.prog 3 #[.slice ao n cap, .int .i64 k] w fun e w' => e = .returned (.bool true) ∧ Below w.heap.size w w' := by
  have Z : Hid (∀ w', Tx g n bo z w' → _) := fun w' (h : Tx g n bo z w') => znum_walk (cp := bc) h hk
  have M : Hid (∀ w', Tx g n bo z w' → _) := fun w' (h : Tx g n bo z w') => model_walk (cp := bc) h hk
  revert Z M
  generalize R z n 0 k = R0
  intro Z M
  go_enter Try.func3, Try.ntmps3
  go_wp2_with (first | (go_at_call 7; refine HC.out.mono ?_; rintro e w1 ⟨rfl, ht, hb⟩; have T1 : Hid _ := ht; have B1 : Hid _ := hb; clear ht hb) | (go_at_call 8; refine (Z.out _ T1.out).mono ?_; rintro e w2 ⟨rfl, hb⟩; have B2 : Hid _ := hb; clear hb) | (go_at_call 9; refine (M.out _ (T1.out.below B2.out)).mono ?_; rintro e w3 ⟨rfl, rfl⟩) | (go_at_call 6; go_in))
  go_ret
  exact ⟨rfl, B1.out.trans (B2.out.mono B1.out.size)⟩

set_option maxHeartbeats 1000000 in
/-- Too long a text, or a start outside it: the law answers true at once. -/
theorem law_out {ao : Option Addr} {n cap : Nat} {i : Int} {w : World} (h : 1048576 < n ∨ (n ≤ 1048576 ∧ (i < 0 ∨ (n : Int) < i))) :
    Calls Try.prog 3 #[.slice ao n cap, .int .i64 i] w fun e w' => e = .returned (.bool true) ∧ Below w.heap.size w w' := by
  rcases h with h | ⟨h, h' | h'⟩
  · go_enter Try.func3, Try.ntmps3
    go_wp2
    go_ret
    exact ⟨rfl, Below.refl _ _⟩
  · go_enter Try.func3, Try.ntmps3
    go_wp2
    go_ret
    exact ⟨rfl, Below.refl _ _⟩
  · have h2 : ¬ i < 0 := by omega
    go_enter Try.func3, Try.ntmps3
    go_wp2
    go_ret
    exact ⟨rfl, Below.refl _ _⟩

theorem law_nil (i : Int) (w : World) : Calls Try.prog 3 #[.slice none 0 0, .int .i64 i] w fun e w' => e = .returned (.bool true) ∧ Below w.heap.size w w' := by
  by_cases hi : 0 ≤ i ∧ i ≤ 0
  · obtain rfl : i = ((0 : Nat) : Int) := by omega
    refine law_core (z := fun _ => 0) (g := 0) (bo := none) (bc := 0) (by omega) (Nat.le_refl 0) ((copy_nil w).mono ?_)
    rintro e w' ⟨rfl, rfl⟩
    exact ⟨rfl, ⟨fun j hj => absurd hj (by omega), fun h => absurd h (by omega), fun h => absurd h (by omega), by omega⟩, Below.refl _ _⟩
  · exact law_out (.inr ⟨by omega, by omega⟩)
theorem law_some (x : Addr) (n cap : Nat) (z : Nat → Int) (i : Int) (w : World) (hs : ∀ j, j < n → w.cell? (x.add j) = some (.int .u8 (z j))) :
    Calls Try.prog 3 #[.slice (some x) n cap, .int .i64 i] w fun e w' => e = .returned (.bool true) ∧ Below w.heap.size w w' := by
  by_cases hn : n ≤ 1048576
  · by_cases hi : 0 ≤ i ∧ i ≤ n
    · obtain ⟨k, rfl⟩ := Int.eq_ofNat_of_zero_le hi.1
      exact law_core hn (by omega) (copy_walk x n cap z w hs hn)
    · exact law_out (.inr ⟨hn, by omega⟩)
  · exact law_out (.inl (by omega))
end Go.Proofs.Qxb6600264a

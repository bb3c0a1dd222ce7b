import Derived.Test.Qxb6600264aZNum
import Derived.Deep.OwnRows
import Derived.Lib.SliceRun
namespace Go.Proofs.Qxb6600264a
open Go.ChangeShapes Go.WideShapes Go.ChangeAt Go.RowKit

theorem info5 : (Try.prog.info? 5).map (fun i => (i.zero, i.size, i.bytes)) = some (some (.int .u8 0), 1, 1) := by kernel_rfl

/-- zzCopyBytes of nil. -/
theorem copy_nil (w : World) : Calls Try.prog 7 #[.slice none 0 0] w fun e w' => e = .returned (.slice none 0 0) ∧ w' = w := by
  have hq : ∀ w : World, (binOp .eql 22 (.slice none 0 0) (.slice none 0 0)).run Try.prog w = .ok (.bool true) w := fun w => Lib.run_eql_slice_nil w 22 5 none 0 0 0 0 Try.underlying22
  go_enter Try.func7, Try.ntmps7
  go_wp2
  go_ret
  exact ⟨rfl, rfl⟩

def cellC (z : Nat → Int) (k j : Nat) : Value := if j < k then .int .u8 (z j) else .int .u8 0

set_option maxHeartbeats 1000000 in
/-- zzCopyBytes of a slice that is not nil. -/
theorem copy_walk (x : Addr) (n cap : Nat) (z : Nat → Int) (w : World) (hs : ∀ j, j < n → w.cell? (x.add j) = some (.int .u8 (z j))) (hn : n ≤ 1048576) :
    Calls Try.prog 7 #[.slice (some x) n cap] w fun e w' => e = .returned (.slice (some ⟨w.heap.size, 0, none⟩) n n) ∧ Tx w.heap.size n (some ⟨w.heap.size, 0, none⟩) z w' ∧ Below w.heap.size w w' := by
  have hq : ∀ w : World, (binOp .eql 22 (.slice (some x) n cap) (.slice none 0 0)).run Try.prog w = .ok (.bool false) w := fun w => Lib.run_eql_slice_nil w 22 5 (some x) n cap 0 0 Try.underlying22
  have hmk := fun w => run_make_row' (P := Try.prog) 22 5 (.int .u8 0) 1 Try.underlying22 info5 rfl .i64 .i64 n (by omega) (by omega) w
  have HS : Hid _ := hs
  clear hs
  go_enter Try.func7, Try.ntmps7
  go_wp2
  clear hq hmk
  go_loopg [4] n (fun g i wr => ∃ k : Nat, k ≤ n ∧ n ≤ g + k ∧ i = .int .i64 k ∧ Aside (wr.rowIs w.heap.size 5 n (cellC z k) ∧ Below w.heap.size w wr))
  case atStart => exact ⟨0, by omega, by omega, rfl, (World.rowIs_made w (.int .u8 0) n 5).congr (fun i _ => rfl), (Below.refl _ _).alloc (Nat.le_refl _) _⟩
  case round =>
    obtain ⟨k, hk, hg, rfl, A⟩ := hrel
    by_cases h0 : k < n
    · obtain ⟨b, off, spot⟩ := x
      have hspot : spot = none := by simpa [Addr.add] using World.cell?_spot (HS.out 0 (by omega))
      subst hspot
      have hc := HS.out k h0
      rw [add_plain] at hc
      have hbw : b < w.heap.size := block_lt_of_cell hc
      have hc2 : wr.cell? ⟨b, off + k, none⟩ = some (.int .u8 (z k)) := (A.out.2.cell (p := ⟨b, off + k, none⟩) hbw).trans hc
      have hd : wr.cell? ⟨w.heap.size, k, none⟩ = some (cellC z k k) := A.out.1.cell h0
      have hf : wr.frozen? ⟨w.heap.size, k, none⟩ = false := A.out.1.frozen k
      clear hc
      go_wp2
      go_roundg (gk - 1)
      case measure => omega
      case rel =>
        refine ⟨k + 1, by omega, by omega, by go_num, (A.out.1.set k (.int .u8 (z k))).congr (fun i _ => ?_), A.out.2.setCell (Nat.le_refl _) _⟩
        unfold cellC
        by_cases e : i = k
        · subst e; simp
        · by_cases e2 : i < k
          · simp [e, e2, show i < k + 1 by omega]
          · simp [e, e2, show ¬ i < k + 1 by omega]
    · obtain rfl : k = n := by omega
      go_wp2
      go_ret
      refine ⟨rfl, ⟨fun j hj => ?_, fun _ => A.out.1.lt, fun _ => rfl, hn⟩, A.out.2⟩
      rw [A.out.1.cell hj, cellC, if_pos hj]
end Go.Proofs.Qxb6600264a

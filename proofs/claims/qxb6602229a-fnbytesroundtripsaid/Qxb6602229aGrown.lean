import Derived.Test.Qxb6602229aRows
import Derived.WalkKit
import Derived.ProofKit
import Derived.Below
import Derived.Deep.Draws
namespace Go.Proofs.Qxb6602229a
open Go.ChangeShapes Go.WideShapes Go.ChangeAt Go.RowKit

theorem grown_block {W w' : World} (h : Grown W w') {i : Nat} (hi : i < W.heap.size) : w'.heap[i]? = W.heap[i]? := by
  have x := h.1.2.2 i hi
  split at x
  · rename_i c t fr c' t' fr' h1 h2
    obtain ⟨rfl, rfl, hs, hc⟩ := x
    rw [h1, h2]
    have : c' = c := by
      apply Array.ext_getElem?
      intro j
      exact hc j (fun f => f)
    rw [this]
  · rename_i es cl es' cl' h1 h2
    rcases x with x | ⟨rfl, rfl⟩
    · exact x.elim
    · rw [h1, h2]
  · exact x
theorem grown_cell {W w' : World} (h : Grown W w') {a : Addr} (ha : a.block < W.heap.size) : w'.cell? a = W.cell? a := World.cell?_of_block (w := W) (grown_block h ha)
theorem grown_trans {a b c : World} (h : Grown a b) (k : Grown b c) : Grown a c :=
  ⟨World.keptBut_trans h.1 k.1, fun x => (k.2.1 x).trans (h.2.1 x), Nat.le_trans h.2.2 k.2.2⟩
theorem grown_drewN {W w' : World} (h : Grown W w') (n : Nat) : Grown W (w'.drewN n) := h
/-- What a walk wants behind a callee's contract: the old cells, the old marks, the size. -/
theorem grown_facts {W w1 : World} (h : Grown W w1) : (∀ b o, b < W.heap.size → w1.cell? ⟨b, o, none⟩ = W.cell? ⟨b, o, none⟩) ∧ (∀ b o, w1.frozen? ⟨b, o, none⟩ = W.frozen? ⟨b, o, none⟩) ∧ W.heap.size ≤ w1.heap.size :=
  ⟨fun _ _ hb => grown_cell h hb, fun _ _ => h.2.1 _, h.2.2⟩
theorem ret_int {k : IntKind} {a b : Int} (h : a = b) : Ending.returned (.int k a) = .returned (.int k b) := by rw [h]
end Go.Proofs.Qxb6602229a

import Derived.Test.Qxb6602229aCmp
import Derived.Test.Qxb6602229aPlain
namespace Go.Proofs.Qxb6602229a
open Go.ChangeShapes Go.WideShapes Go.ChangeAt Go.RowKit Plain

/-! ### A whole row written into a block of the call's own -/
theorem frozen_setRow (w : World) (g : Nat) (cs : Array Value) (a : Addr) : (w.setRow g cs).frozen? a = w.frozen? a := by
  by_cases h : a.block = g
  · unfold World.frozen? World.setRow
    simp only [Array.getElem?_modify, h, if_true]
    cases hq : w.heap[g]? with
    | none => simp
    | some o => cases o <;> simp
  · exact World.frozen?_of_block (w := w) (setRow_other w g a.block cs h)
theorem grown_setRow {W w' : World} (h : Grown W w') {g : Nat} (hg : W.heap.size ≤ g) (cs : Array Value) : Grown W (w'.setRow g cs) := by
  refine ⟨⟨h.1.1, h.1.2.1, fun i hi => ?_⟩, fun a => (frozen_setRow w' g cs a).trans (h.2.1 a), by rw [setRow_size]; exact h.2.2⟩
  rw [setRow_other w' g i cs (by omega)]
  exact h.1.2.2 i hi

/-- Bytes as cells. -/
def bytesV (zs : List Int) : Array Value := (zs.map (Value.int .u8)).toArray
theorem bytesV_size (zs : List Int) : (bytesV zs).size = zs.length := by simp [bytesV]
theorem bytesV_get (zs : List Int) (k : Nat) (h : k < zs.length) : (bytesV zs)[k]? = some (.int .u8 (zs[k]?.getD 0)) := by simp [bytesV, h]

/-- The first m bytes of zs, the rest 0. -/
def pre (zs : List Int) (m : Nat) : List Int := zs.take m ++ List.replicate (24 - m) 0
theorem pre_length (zs : List Int) (m : Nat) (hl : zs.length = 24) (hm : m ≤ 24) : (pre zs m).length = 24 := by simp [pre, hl]; omega
theorem pre_at (zs : List Int) (m : Nat) (hl : zs.length = 24) (hm : m < 24) : (bytesV (pre zs m))[m]? = some (.int .u8 0) := by
  rw [bytesV_get _ _ (by rw [pre_length zs m hl (by omega)]; exact hm)]
  simp [pre, hl, Nat.le_of_lt hm, hm]
theorem pre_set (zs : List Int) (m : Nat) (x : Int) (hl : zs.length = 24) (hm : m < 24) (hx : zs[m]?.getD 0 = x) : (bytesV (pre zs m)).setIfInBounds m (.int .u8 x) = bytesV (pre zs (m + 1)) := by
  have h2 : pre zs (m + 1) = (pre zs m).set m x := by
    have e : zs.take (m + 1) = zs.take m ++ [x] := by
      rw [List.take_succ_eq_append_getElem (by omega), ← hx]
      simp [show m < zs.length by omega]
    have e2 : List.replicate (24 - m) (0 : Int) = 0 :: List.replicate (24 - (m + 1)) 0 := by
      rw [show 24 - m = (24 - (m + 1)) + 1 by omega, List.replicate_succ]
    have e3 : (zs.take m).length = m := by rw [List.length_take]; omega
    rw [pre, pre, e, e2, List.append_assoc, List.set_append_right _ _ (by omega), e3, Nat.sub_self]
    rfl
  rw [h2, bytesV, bytesV]
  simp [List.map_set]
theorem pre_all (zs : List Int) (hl : zs.length = 24) : pre zs 24 = zs := by simp [pre, ← hl]
theorem bytesV_one (zs : List Int) : (bytesV zs).all (·.oneCell') = true := by
  simp [bytesV]
  intro i _
  rfl
theorem size31 : (Try.prog.info? 31).map (·.size) = some 24 := by kernel_rfl
theorem size31' (zs : List Int) (hl : zs.length = 24) : (Try.prog.info? 31).map (·.size) = some (bytesV zs).size := by rw [bytesV_size, hl]; exact size31
end Go.Proofs.Qxb6602229a

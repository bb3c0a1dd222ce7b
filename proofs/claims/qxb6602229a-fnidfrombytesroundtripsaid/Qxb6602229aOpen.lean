import Derived.Test.Qxb6602229aRow24
namespace Go.Proofs.Qxb6602229a
open Go.ChangeShapes Go.WideShapes Go.ChangeAt Go.RowKit Plain

theorem cells5 : Try.prog.cellsOf 5 = 1 := by kernel_rfl
theorem cells31 : Try.prog.cellsOf 31 = 24 := by kernel_rfl

theorem take_one {α : Type} (l : List α) (i : Nat) (h : i < l.length) : (l.drop i).take 1 = [l[i]] := by
  rw [List.drop_eq_getElem_cons h]
  rfl

/-- An array of 24 bytes that came in by value, opened. -/
theorem open_bytes {H : Type} {enc : TypeId × Value → H} {W : World} {b : Nat} {base : Nat} {sp : Nat → Bool} {held : Bool} {v : Value} {d : DataW H} {p : List MemPlace}
    (hval : Value.okWide Try.prog W .any base 31 v) (h : DataW.Trod enc Try.prog W b sp held 31 v d p) :
    ∃ zs : List Int, zs.length = 24 ∧ v = .agg (bytesV zs) ∧ d = .agg (zs.map fun z => .lit (.int .u8 z)) ∧ p = [] ∧ ∀ z ∈ zs, (Lit.int .u8 z).wf = true := by
  obtain ⟨cs, rfl, hsz, _⟩ : ∃ cs, v = .agg cs ∧ cs.size = Try.prog.cellsOf 31 ∧ Row.okWide Try.prog W .any base 31 cs := by
    simpa [Value.okWide, Try.underlying31] using hval
  rw [cells31] at hsz
  obtain ⟨l⟩ := cs
  have hl : l.length = 24 := hsz
  obtain ⟨fuel, hf⟩ := h
  obtain ⟨xs, m, _, hx, _, hxl, hel⟩ := DataW.trod_array Try.underlying31 hf
  simp only [Prod.mk.injEq] at hx
  obtain ⟨rfl, rfl⟩ := hx
  have key : ∀ i, (hi : i < 24) → ∃ n, l[i] = .int .u8 n ∧ xs[i]? = some (.lit (.int .u8 n), []) ∧ (Lit.int .u8 n).wf = true := by
    intro i hi
    have e := hel i hi
    rw [cells5, Nat.mul_one] at e
    have e2 : (((Value.agg ⟨l⟩).cells.toList).drop i).take 1 = [l[i]] := take_one l i (by omega)
    rw [e2] at e
    have hs : xs[i]? = some xs[i] := List.getElem?_eq_getElem (by omega)
    rw [hs] at e
    obtain ⟨n, h1, h2, h3⟩ := DataW.trod_int Try.underlying5 e
    simp at h1
    exact ⟨n, h1, by rw [hs, h2], h3⟩
  have e1 : l = (l.map intOf).map (Value.int .u8) := by
    apply List.ext_getElem (by simp)
    intro i h1 h2
    obtain ⟨n, hn, _⟩ := key i (by omega)
    simp [hn, intOf]
  have e2 : xs = (l.map intOf).map fun z => (DataW.lit (.int .u8 z), []) := by
    apply List.ext_getElem?
    intro i
    by_cases hi : i < 24
    · obtain ⟨n, hn, hxi, _⟩ := key i hi
      rw [hxi]
      simp [hl, hi, hn, intOf]
    · rw [List.getElem?_eq_none (by omega), List.getElem?_eq_none (by simp; omega)]
  refine ⟨l.map intOf, by simp [hl], ?_, ?_, ?_, ?_⟩
  · rw [bytesV, ← e1]
  · rw [e2]; simp [Function.comp_def]
  · rw [e2]; simp [List.flatMap_map]
  · intro z hz
    obtain ⟨c, hc, rfl⟩ := List.mem_map.1 hz
    obtain ⟨i, hi, rfl⟩ := List.getElem_of_mem hc
    obtain ⟨n, hn, _, hw⟩ := key i (by omega)
    rw [hn]
    exact hw

theorem mapM_some {α β : Type} (f : α → Option β) (g : α → β) : ∀ l : List α, (∀ x ∈ l, f x = some (g x)) → l.mapM f = some (l.map g)
  | [], _ => rfl
  | x :: l, h => by
    rw [List.mapM_cons, h x (by simp), mapM_some f g l (fun y hy => h y (by simp [hy]))]
    rfl

/-- And shut again, in whatever world. -/
theorem shut_bytes {H : Type} {enc : TypeId × Value → H} (W : World) (b : Nat) (sp : Nat → Bool) (held : Bool) (zs : List Int) (hl : zs.length = 24) (hw : ∀ z ∈ zs, (Lit.int .u8 z).wf = true) :
    DataW.Trod enc Try.prog W b sp held 31 (.agg (bytesV zs)) (.agg (zs.map fun z => .lit (.int .u8 z))) [] := by
  refine ⟨2, ?_⟩
  have hc : (Value.agg (bytesV zs)).cells.toList = zs.map (Value.int .u8) := by simp [Value.cells, bytesV]
  rw [hc]
  unfold DataW.trod
  rw [Try.underlying31]
  simp only [List.length_map, hl, cells31, if_true, cells5, Nat.mul_one]
  rw [mapM_some _ (fun i => (DataW.lit (.int .u8 (zs[i]?.getD 0)), [])) (List.range 24)]
  · simp only [Option.map_some, Option.some.injEq, Prod.mk.injEq, List.map_map]
    constructor
    · congr 1
      apply List.ext_getElem (by simp [hl])
      intro i h1 h2
      simp [show i < zs.length by simpa using h2]
    · simp
  · intro i hi
    have hi' : i < zs.length := by rw [hl]; simpa using hi
    rw [take_one _ _ (by simpa using hi')]
    have hwi := hw zs[i] (List.getElem_mem hi')
    simp [DataW.trod, Try.underlying5, hi', hwi]

theorem bytes_of_wf (zs : List Int) (hw : ∀ z ∈ zs, (Lit.int .u8 z).wf = true) (k : Nat) : 0 ≤ zs[k]?.getD 0 ∧ zs[k]?.getD 0 ≤ 255 := range_u8 hw k
end Go.Proofs.Qxb6602229a

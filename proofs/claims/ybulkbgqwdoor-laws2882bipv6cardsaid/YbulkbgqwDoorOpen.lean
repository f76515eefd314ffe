import Derived.Test.YbulkbgqwDoorLaid
namespace Go.Proofs.YbulkbgqwDoor
open Go.ChangeShapes Go.WideShapes Go.ChangeAt Go.RowKit

theorem Ybad.cells5 : Ybad.prog.cellsOf 5 = 1 := by kernel_rfl
theorem Ybad.cells23 : Ybad.prog.cellsOf 23 = 4 := by kernel_rfl
theorem Ybad.cells42 : Ybad.prog.cellsOf 42 = 16 := by kernel_rfl

/-- The octets as the memory holds them. -/
def cells8 (zs : List Int) : List Value := zs.map (Value.int .u8)

section
variable {H : Type} {enc : TypeId × Value → H} {W : World} {base : Nat} {sp : Nat → Bool} {held : Bool}
/-- An array of octets by value: its octets; it leads to no memory. -/
theorem open_octets {t : TypeId} {n : Nat} {v : Value} {d : DataW H} {p : List MemPlace} (ht : Ybad.prog.underlying t = some (.array n 5)) (hct : Ybad.prog.cellsOf t = n) (hv : Value.okWide Ybad.prog W .any base t v) (h : DataW.Trod enc Ybad.prog W 0 sp held t v d p) :
    ∃ zs : List Int, v = .agg (cells8 zs).toArray ∧ zs.length = n ∧ (∀ z ∈ zs, 0 ≤ z ∧ z ≤ 255) ∧ p = [] := by
  obtain ⟨cs, rfl, hsz, _⟩ : ∃ cs, v = .agg cs ∧ cs.size = Ybad.prog.cellsOf t ∧ Row.okWide Ybad.prog W .any base t cs := by
    simpa [Value.okWide, ht] using hv
  rw [hct] at hsz
  obtain ⟨fuel, hf⟩ := h
  obtain ⟨xs, m, _, hx, _, hxl, hall⟩ := DataW.trod_array ht hf
  simp only [Prod.mk.injEq] at hx
  obtain ⟨_, rfl⟩ := hx
  have key : ∀ i, i < n → ∃ z : Int, cs[i]? = some (.int .u8 z) ∧ xs[i]? = some (.lit (.int .u8 z), []) ∧ 0 ≤ z ∧ z ≤ 255 := by
    intro i hi
    have hi' := hall i hi
    rw [Ybad.cells5, Nat.mul_one] at hi'
    rw [List.getElem?_eq_getElem (by omega)] at hi'
    obtain ⟨z, hc, hxz, hw⟩ := DataW.trod_int Ybad.underlying5 hi'
    refine ⟨z, ?_, ?_, bounds_u8 hw⟩
    · have h2 : ((cs.toList.drop i).take 1)[0]? = some (.int .u8 z) := by
        have : (Value.agg cs).cells.toList = cs.toList := rfl
        rw [this] at hc; rw [hc]; rfl
      simpa [List.getElem?_take, List.getElem?_drop] using h2
    · rw [List.getElem?_eq_getElem (by omega), hxz]
  refine ⟨cs.toList.map intOf, ?_, by simp [hsz], ?_, ?_⟩
  · have : cs.toList = cells8 (cs.toList.map intOf) := by
      apply List.ext_getElem?
      intro i
      by_cases hi : i < n
      · obtain ⟨z, h1, _⟩ := key i hi
        have h1' : cs.toList[i]? = some (.int .u8 z) := by simpa using h1
        simp only [cells8, List.getElem?_map, h1', Option.map_some, intOf]
      · rw [List.getElem?_eq_none (by simp [hsz]; omega), List.getElem?_eq_none (by simp [cells8, hsz]; omega)]
    rw [← this]
  · intro z hz
    obtain ⟨i, hi, rfl⟩ := List.getElem_of_mem hz
    simp only [List.length_map, Array.length_toList, hsz] at hi
    obtain ⟨z, h1, _, hb⟩ := key i hi
    have h1' : cs.toList[i]? = some (.int .u8 z) := by simpa using h1
    have h2 : (cs.toList.map intOf)[i]? = some z := by simp only [List.getElem?_map, h1', Option.map_some, intOf]
    rw [List.getElem?_eq_getElem (by simp [hsz]; omega)] at h2
    rw [Option.some.inj h2]; exact hb
  · rw [List.flatMap_eq_nil_iff]
    intro y hy
    obtain ⟨i, hi, rfl⟩ := List.getElem_of_mem hy
    obtain ⟨z, _, h2, _⟩ := key i (by omega)
    rw [List.getElem?_eq_getElem hi] at h2
    rw [Option.some.inj h2]
end

theorem list4 {α : Type} (l : List α) (h : l.length = 4) : ∃ a b c d, l = [a, b, c, d] := by
  match l, h with
  | [a, b, c, d], _ => exact ⟨a, b, c, d, rfl⟩
end Go.Proofs.YbulkbgqwDoor

import Derived.Test.YbulkbgqwRows
import Derived.Test.YbulkbgqwModelWalk
import Derived.ProofKit
import Derived.OpenShut
namespace Go.Proofs.Ybulkbgqw
open Go.ChangeShapes Go.WideShapes Go.ChangeAt Go.RowKit

theorem Yba.own : ownKnob Yba.prog.godebug = none := by kernel_rfl
theorem Yba.laidOut : laidOutB Yba.prog = true := by kernel_rfl
theorem Yba.cells22 : Yba.prog.cellsOf 22 = 16 := by kernel_rfl
theorem Yba.cells5 : Yba.prog.cellsOf 5 = 1 := by kernel_rfl
theorem Yba.rec22 : Yba.prog.readableRec 22 = true := by kernel_rfl
theorem Yba.row22 : (22 : TypeId) < Yba.prog.types.size := of_decide_eq_true (by kernel_rfl)

section
variable {H : Type} {enc : TypeId × Value → H} {W : World} {base : Nat} {sp : Nat → Bool} {held : Bool}
/-- A [16]byte by value: its sixteen octets; it leads to no memory. -/
theorem open_octets {v : Value} {d : DataW H} {p : List MemPlace} (hv : Value.okWide Yba.prog W .any base 22 v) (h : DataW.Trod enc Yba.prog W 0 sp held 22 v d p) :
    ∃ zs : List Int, v = .agg (cells8 zs).toArray ∧ zs.length = 16 ∧ p = [] := by
  obtain ⟨cs, rfl, hsz, _⟩ : ∃ cs, v = .agg cs ∧ cs.size = Yba.prog.cellsOf 22 ∧ Row.okWide Yba.prog W .any base 22 cs := by
    simpa [Value.okWide, Yba.underlying22] using hv
  rw [Yba.cells22] at hsz
  obtain ⟨fuel, hf⟩ := h
  obtain ⟨xs, m, _, hx, _, hxl, hall⟩ := DataW.trod_array Yba.underlying22 hf
  simp only [Prod.mk.injEq] at hx
  obtain ⟨_, rfl⟩ := hx
  have key : ∀ i, i < 16 → ∃ z : Int, cs[i]? = some (.int .u8 z) ∧ xs[i]? = some (.lit (.int .u8 z), []) := by
    intro i hi
    have hi' := hall i hi
    rw [Yba.cells5, Nat.mul_one] at hi'
    rw [List.getElem?_eq_getElem (by omega)] at hi'
    obtain ⟨z, hc, hxz, _⟩ := DataW.trod_int Yba.underlying5 hi'
    refine ⟨z, ?_, ?_⟩
    · have h2 : ((cs.toList.drop i).take 1)[0]? = some (.int .u8 z) := by
        have : (Value.agg cs).cells.toList = cs.toList := rfl
        rw [this] at hc; rw [hc]; rfl
      simpa [List.getElem?_take, List.getElem?_drop] using h2
    · rw [List.getElem?_eq_getElem (by omega), hxz]
  refine ⟨cs.toList.map intOf, ?_, by simp [hsz], ?_⟩
  · have : cs.toList = cells8 (cs.toList.map intOf) := by
      apply List.ext_getElem?
      intro i
      by_cases hi : i < 16
      · obtain ⟨z, h1, _⟩ := key i hi
        have h1' : cs.toList[i]? = some (.int .u8 z) := by simpa using h1
        simp only [cells8, List.getElem?_map, h1', Option.map_some, intOf]
      · rw [List.getElem?_eq_none (by simp [hsz]; omega), List.getElem?_eq_none (by simp [cells8, hsz]; omega)]
    rw [← this]
  · rw [List.flatMap_eq_nil_iff]
    intro y hy
    obtain ⟨i, hi, rfl⟩ := List.getElem_of_mem hy
    obtain ⟨z, _, h2⟩ := key i (by omega)
    rw [List.getElem?_eq_getElem hi] at h2
    rw [Option.some.inj h2]
end
end Go.Proofs.Ybulkbgqw

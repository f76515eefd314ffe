import Derived.Test.YbulkbgqwFmtWraps
import Derived.Test.YbulkbgqwFmtLaid
import Derived.Test.YbulkbgqwFmtTie
import Derived.Test.YbulkbgqwFmtCards
import Derived.LaidLaws
import Derived.LaidHandle
import Derived.SevenTiedAt
import Derived.ChangeMaps5
namespace Go.Proofs.YbulkbgqwFmt
open Go.ChangeShapes Go.WideShapes Go.ChangeAt Go.RowKit Go.Kit
open Go.Extern.Stop Go.Stop Go.Extern

theorem Ybaf.et : Ybaf.prog.globalNamed "errors.errorType" = some 2 := by kernel_rfl
theorem Ybaf.oneRow : ((List.range 106).filter fun t => Ybaf.prog.rowNamed t [101, 114, 114, 111, 114]) = [23] := by kernel_rfl
theorem Ybaf.typesSize : Ybaf.prog.types.size = 106 := by kernel_rfl

/-- What 'laid' gives at errors.errorType: the variable's one cell. -/
theorem handle_of_laid {W : World} {n : String} (hn : Ybaf.prog.globalNamed n = some 2) (h : handlesMet Ybaf.prog [(n, Rows.laid_errors_errorType)] W) : W.cell? ⟨2, 0, none⟩ = some (.iface 53 (.agg #[.pointer (some ⟨3, 23, none⟩)])) := by
  obtain ⟨name, u, ty, e1, e2, e3, e4, e5⟩ := h _ (List.mem_singleton.2 rfl)
  have en : name = [101, 114, 114, 111, 114] := (Option.some.inj e1).symm
  subst en
  have hrt : some u = some 53 := e2.symm.trans (by kernel_rfl)
  obtain rfl : u = 53 := Option.some.inj hrt
  have hm : ty ∈ (List.range 106).filter fun t => Ybaf.prog.rowNamed t [101, 114, 114, 111, 114] := List.mem_filter.2 ⟨List.mem_range.2 (by rw [← Ybaf.typesSize]; exact e3), e4⟩
  rw [Ybaf.oneRow] at hm
  obtain rfl := List.mem_singleton.1 hm
  have hh : typeHandle Ybaf.prog 23 = .pointer (some ⟨3, 23, none⟩) := by kernel_rfl
  rw [hh] at e5
  simpa using World.var?_cell hn e5 0

/-- A world in which the three variables hold what the row lists: for the witness. -/
def laidWorldH (P : Program) (os : Os) : World :=
  let w0 := laidWorld P os
  { w0 with heap := w0.heap.modify 2 fun
      | .cells _ t frozen => .cells #[.iface 53 (.agg #[.pointer (some ⟨3, 23, none⟩)])] t frozen
      | o => o }
theorem laid_metH (os : Os) (args : Array Value) : laidMetH Ybaf.prog Rows.lawS2882CWrapsRow.laid ((laidWorldH Ybaf.prog os).forCall (fun _ _ => 0) ⟨#[], args, []⟩).memory :=
  laidMetH_of_parts (laidMet_of_run (ps := [.cell 0 0, .cell ((World.holding Ybaf.prog default ⟨#[], #[], []⟩).heap.size) 0, .cell 1 0, .cell ((World.holding Ybaf.prog default ⟨#[], #[], []⟩).heap.size + 1) 0]) 8 (by kernel_rfl) (by kernel_rfl) (by kernel_rfl)) (by kernel_rfl)

set_option maxRecDepth 100000 in
theorem wraps_lifted (os : Os) (started : os.Started) (H : Type) (enc : TypeId × Value → H) :
    ReturnsInTold none {} Ybaf.checked os 4 .any Input.okWide ((OpenSpec.ofChange Rows.lawS2882CWrapsSpec).preRow enc Ybaf.prog Ybaf.f4 Rows.lawS2882CWrapsRow.domain false Rows.lawS2882CWrapsRow.laid) (fun F => ((OpenSpec.ofChange Rows.lawS2882CWrapsSpec).at F).post enc Ybaf.prog Ybaf.f4 false true false false) (aloneAtReturn Ybaf.prog) nothingAlways := by
  refine returnsInTold_of_row (C := Ybaf.checked) (s := OpenSpec.ofChange Rows.lawS2882CWrapsSpec) (by kernel_rfl) Ybaf.own started (by kernel_rfl) Ybaf.func4
    (OpenSpec.witness_stopped_at (enc := enc) (C := Ybaf.checked) false (laidWorldH Ybaf.prog os) #[.string ⟨#[]⟩, .bool false] rfl (by kernel_rfl) (by kernel_rfl) (by kernel_rfl)
      (OpenSpec.preRow_of_B rfl 8 (by kernel_rfl) (by kernel_rfl) (laid_metH os _))) ?_
  intro F W base args ds gs before _ hF hval0 hW _ _ _ hL _
  have hval : ∀ (j : Nat) t v, Ybaf.f4.params[j]? = some t → args[j]? = some v → Value.okWide Ybaf.prog W .any base t v := hval0
  have hW' := hW
  obtain ⟨p, q, hA0, hV, rfl, hfz, hnd⟩ := hW
  have hA : DataW.TrodAll enc Ybaf.prog W 0 (fun _ => true) true Ybaf.f4.params.toList args.toList ds p := hA0
  rw [Ybaf.params4] at hA hval
  obtain ⟨v0, v1, d0, d1, p0, p1, rfl, rfl, rfl, h0, h1⟩ := trodAll_two hA
  obtain ⟨rfl, rfl⟩ := trodVars_none hV
  obtain ⟨s, rfl, rfl, rfl, hs⟩ := Go.ChangeMaps.open_string Ybaf.underlying9 (hval 0 9 v0 rfl rfl) h0
  obtain ⟨u, rfl, rfl, rfl⟩ := open_bool Ybaf.underlying4 (hval 1 4 v1 rfl rfl) h1
  clear hA0 hval0
  obtain ⟨hL1, hL2⟩ : laidMet Ybaf.prog [("io.EOF", Rows.laid_io_EOF), ("io.ErrUnexpectedEOF", Rows.laid_io_ErrUnexpectedEOF)] W ∧ handlesMet Ybaf.prog [("errors.errorType", Rows.laid_errors_errorType)] W := hL
  obtain ⟨a0, a1, _, _, _, _, hg0, hg1, _, _, _⟩ := ends_laid hL1
  have hg2 := handle_of_laid Ybaf.et hL2
  refine (wraps_any F.told s u a0 a1 W hF hg0 hg1 hg2).mono fun e W' ⟨he, hb⟩ => ?_
  subst he
  refine ⟨_, rfl, _, _, _, [], [], [], hW', ?_, ?_, rfl, hb.frame _, fun h => by cases h⟩
  · exact trodAll_mk1 (shut_bool Ybaf.underlying4 _)
  · exact trodAll_mk2 (Go.ChangeMaps.shut_string Ybaf.underlying9 hs) (shut_bool Ybaf.underlying4 u)

theorem wraps_told : Rows.LawS2882CWrapsToldSaid :=
  Claim7.holds_of_told_tied_any_at .later 4 Ybaf.f4 _ [] [] _ _ _ _ _ (by kernel_rfl) rfl rfl rfl Ybaf.laidOut (by kernel_rfl) rfl ⟨rfl, rfl, rfl, rfl, rfl, rfl, rfl⟩ rfl rfl (by kernel_rfl) (by kernel_rfl) Ybaf.func4 (by kernel_rfl)
    (of_decide_eq_true (by kernel_rfl)) (by unfold Func.isWrapper; rw [if_neg (of_decide_eq_false (by kernel_rfl))]; exact ⟨rfl, rfl⟩) (by kernel_rfl) rfl Ybaf.stopKnobs.symm (by kernel_rfl)
    (by kernel_rfl) (by kernel_rfl) (by kernel_rfl) (by kernel_rfl) (by kernel_rfl) (by kernel_rfl) (by kernel_rfl) (by kernel_rfl) (by kernel_rfl) rfl (by kernel_rfl) rfl rfl
    rfl rfl
    rfl (by kernel_rfl) (by kernel_rfl) (by kernel_rfl) (by decide) (by kernel_rfl) lawS2882CWraps_row_tie
    (OpenClaim.moreEntering_of (by kernel_rfl) (by kernel_rfl) (by kernel_rfl) (by kernel_rfl) (by kernel_rfl) (by kernel_rfl) (by kernel_rfl) (by kernel_rfl) (by kernel_rfl) (by kernel_rfl))
    ⟨_, WideRow.started_initial, Ybaf.quiet _⟩
    (fun os started _ H enc _ => wraps_lifted os started H enc)
end Go.Proofs.YbulkbgqwFmt

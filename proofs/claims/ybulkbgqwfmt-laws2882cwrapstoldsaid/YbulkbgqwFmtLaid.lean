import Derived.Test.YbulkbgqwFmtRows
import Derived.ProofKit
import Derived.OpenShut
import Derived.Stop.JoinedAt
import Derived.Stop.JoinedTold
import Derived.Stop.LaidErr
import Derived.Stop.LaidTwo
namespace Go.Proofs.YbulkbgqwFmt
open Go.ChangeShapes Go.WideShapes Go.ChangeAt Go.RowKit Go.Kit
open Go.Extern.Stop Go.Stop Go.Extern

theorem Ybaf.own : ownKnob Ybaf.prog.godebug = none := by kernel_rfl
theorem Ybaf.laidOut : laidOutB Ybaf.pinned.checked.prog = true := by kernel_rfl
theorem Ybaf.stopKnobs : Ybaf.pinned.checked.prog.stopKnobs = [] := by kernel_rfl
theorem Ybaf.quiet (os : Os) : Stop.quiet Ybaf.pinned.checked.prog os := by
  intro k hk
  rw [Ybaf.stopKnobs] at hk
  cases hk
theorem Ybaf.gE : Ybaf.prog.globalNamed "io.EOF" = some 0 := by kernel_rfl
theorem Ybaf.gU : Ybaf.prog.globalNamed "io.ErrUnexpectedEOF" = some 1 := by kernel_rfl
theorem Ybaf.gEType : (Ybaf.prog.globals[0]?).map (·.type) = some 23 := by kernel_rfl
theorem Ybaf.gUType : (Ybaf.prog.globals[1]?).map (·.type) = some 23 := by kernel_rfl
theorem Ybaf.cells70 : Ybaf.prog.cellsOf 70 = 1 := by kernel_rfl
theorem Ybaf.cells9 : Ybaf.prog.cellsOf 9 = 1 := by kernel_rfl
/-- One type alone bears the name of type 68. -/
theorem Ybaf.row68 {nm : String} (hnm : Ybaf.prog.typeName? 3 68 = some nm) (u : TypeId) (h : Ybaf.prog.typeName? 3 u = some nm) : u = 68 := by
  refine typeName_ptr_named (nm := "errors.errorString") ?_ (by kernel_rfl) (by decide) u (h.trans (hnm.symm.trans ?_))
  · kernel_rfl
  · kernel_rfl

def eofS : ByteArray := { data := #[69, 79, 70] }
def unS : ByteArray := { data := #[117, 110, 101, 120, 112, 101, 99, 116, 101, 100, 32, 69, 79, 70] }

/-- What 'laid' gives at the two sentinels. -/
theorem ends_laid {W : World} {r : List (String × DataW Unit)} (h : laidMet Ybaf.prog (("io.EOF", Rows.laid_io_EOF) :: ("io.ErrUnexpectedEOF", Rows.laid_io_ErrUnexpectedEOF) :: r) W) :
    ∃ (a0 a1 : Addr) (c0 c1 : Array Value) (t0 t1 : TypeId), W.cell? ⟨0, 0, none⟩ = some (.iface 68 (.pointer (some a0))) ∧ W.cell? ⟨1, 0, none⟩ = some (.iface 68 (.pointer (some a1))) ∧ a0 ≠ a1 ∧
      W.heap[a0.block]? = some (.cells c0 t0 (0, 0)) ∧ W.heap[a1.block]? = some (.cells c1 t1 (0, 0)) := by
  obtain ⟨a0, a1, s0, s1, c0, c1, t0, t1, hv0, hv1, _, _, _, _, _, _, hne, hb0, hb1⟩ := laid_sentinels2 h Ybaf.gE Ybaf.gEType Ybaf.gU Ybaf.gUType Ybaf.underlying23 (Ybaf.row68 (by kernel_rfl)) Ybaf.underlying68 Ybaf.underlying70 rfl rfl Ybaf.underlying9 Ybaf.cells70 Ybaf.cells9
  exact ⟨a0, a1, c0, c1, t0, t1, by simpa using World.var?_cell Ybaf.gE hv0 0, by simpa using World.var?_cell Ybaf.gU hv1 0, hne, hb0, hb1⟩

/-- A world in which the variables hold what the row lists: for the witness. -/
def laidWorld (P : Program) (os : Os) : World :=
  let low := (World.holding P default ⟨#[], #[], []⟩).heap.size
  let w0 := World.holding P os ⟨#[.cells #[.string eofS] 70, .cells #[.string unS] 70], #[], []⟩
  { w0 with heap := (w0.heap.modify 0 fun
      | .cells _ t frozen => .cells #[.iface 68 (.pointer (some ⟨low, 0, none⟩))] t frozen
      | o => o).modify 1 fun
      | .cells _ t frozen => .cells #[.iface 68 (.pointer (some ⟨low + 1, 0, none⟩))] t frozen
      | o => o }
theorem laid_met (os : Os) (args : Array Value) : laidMet Ybaf.prog [("io.EOF", Rows.laid_io_EOF), ("io.ErrUnexpectedEOF", Rows.laid_io_ErrUnexpectedEOF)] ((laidWorld Ybaf.prog os).forCall (fun _ _ => 0) ⟨#[], args, []⟩).memory :=
  laidMet_of_run (ps := [.cell 0 0, .cell ((World.holding Ybaf.prog default ⟨#[], #[], []⟩).heap.size) 0, .cell 1 0, .cell ((World.holding Ybaf.prog default ⟨#[], #[], []⟩).heap.size + 1) 0]) 8 (by kernel_rfl) (by kernel_rfl) (by kernel_rfl)
end Go.Proofs.YbulkbgqwFmt

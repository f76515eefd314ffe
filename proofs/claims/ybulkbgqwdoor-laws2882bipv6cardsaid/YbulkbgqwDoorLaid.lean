import Derived.Test.YbulkbgqwDoorBase
import Derived.ProofKit
import Derived.OpenShut
import Derived.LaidLaws
import Derived.Stop.LaidErr
import Derived.Handed
import Derived.LaidHandle
import Derived.Stop.Joined
namespace Go.Proofs.YbulkbgqwDoor
open Go.ChangeShapes Go.WideShapes Go.ChangeAt Go.RowKit

theorem Ybad.own : ownKnob Ybad.prog.godebug = none := by kernel_rfl
theorem Ybad.laidOut : laidOutB Ybad.prog = true := by kernel_rfl
theorem Ybad.cells36 : Ybad.prog.cellsOf 36 = 1 := by kernel_rfl
theorem Ybad.cells34 : Ybad.prog.cellsOf 34 = 1 := by kernel_rfl
theorem Ybad.cells77 : Ybad.prog.cellsOf 77 = 2 := by kernel_rfl

section
variable {H : Type} {enc : TypeId × Value → H} {W : World} {base : Nat} {sp : Nat → Bool} {held : Bool}

/-- A handle that reads as a pointer. -/
theorem handle_of_trod {fuel : Nat} {cs : List Value} {d : DataW H} {p : List MemPlace} (h : DataW.trod enc Ybad.prog W base sp held fuel 36 cs = some (.agg [.ptr d], p)) :
    ∃ a q, cs = [.pointer (some a)] ∧ p = MemPlace.row a 2 ++ q := by
  obtain ⟨y0, n, hx, hl, hy⟩ := trod_struct1 Ybad.underlying36 h
  simp only [Prod.mk.injEq, DataW.agg.injEq, List.cons.injEq, and_true] at hx
  obtain ⟨h1, h2⟩ := hx
  obtain ⟨d0, q0⟩ := y0
  simp only at h1 h2
  subst h1 h2
  obtain ⟨f2, a, cs', q, hv, _, _, rfl⟩ := ptr_of_trod Ybad.underlying34 hy
  rw [Ybad.cells36] at hl
  refine ⟨a, q, ?_, by rw [Ybad.cells77]⟩
  match cs, hl with
  | [c], _ => simpa [Ybad.cells34] using hv

/-- A handle that reads as nil. -/
theorem nil_of_trod {fuel : Nat} {cs : List Value} {p : List MemPlace} (h : DataW.trod enc Ybad.prog W base sp held fuel 36 cs = some (.agg [.nil], p)) : cs = [.pointer none] := by
  obtain ⟨y0, n, hx, hl, hy⟩ := trod_struct1 Ybad.underlying36 h
  simp only [Prod.mk.injEq, DataW.agg.injEq, List.cons.injEq, and_true] at hx
  obtain ⟨h1, h2⟩ := hx
  obtain ⟨d0, q0⟩ := y0
  simp only at h1 h2
  subst h1 h2
  rw [Ybad.cells36] at hl
  match cs, hl with
  | [c], _ =>
    simp only [Ybad.cells34, List.drop_zero, List.take_succ_cons, List.take_zero] at hy
    cases n with
    | zero => simp [DataW.trod] at hy
    | succ n =>
      cases c with
      | pointer o =>
        cases o with
        | none => rfl
        | some a =>
          simp [DataW.trod, Ybad.underlying34] at hy
          obtain ⟨c, _, hc⟩ := Option.bind_eq_some_iff.1 hy
          simp at hc
      | _ => simp [DataW.trod, Ybad.underlying34] at hy
end

/-- The witness, at a world whose variables hold pointers that are not nil (Handed.lean's 'ChangeSpec.witness_at', by 'World.shaped_of_RefB'). -/
theorem witness_ref {H : Type} {enc : TypeId × Value → H} {os : Os} {f : FuncId} {fn : Func} {s : ChangeSpec} {X : World → Array Value → Prop} (w0 : World) (args : Array Value) (fuel : Nat) (hos : w0.os = os)
    (hv : (w0.forCall (fun _ _ => 0) ⟨#[], args, []⟩).variablesRefB Ybad.checked.prog = true)
    (hr : ((w0.forCall (fun _ _ => 0) ⟨#[], args, []⟩).heap.toList.drop Ybad.checked.prog.globals.size).take ((begin Ybad.checked.prog (fun _ _ => 0) default).world.heap.size - Ybad.checked.prog.globals.size) =
      (begin Ybad.checked.prog (fun _ _ => 0) default).world.heap.toList.drop Ybad.checked.prog.globals.size)
    (hok : Input.okWideB Ybad.checked.prog (w0.forCall (fun _ _ => 0) ⟨#[], args, []⟩) f ⟨#[], args, []⟩ = true)
    (hpre : s.preB enc Ybad.checked.prog fn [] false (w0.forCall (fun _ _ => 0) ⟨#[], args, []⟩).memory args fuel = true)
    (hsz : s.sizedB enc Ybad.checked.prog fn false (w0.forCall (fun _ _ => 0) ⟨#[], args, []⟩).memory args fuel = true)
    (hx : X (w0.forCall (fun _ _ => 0) ⟨#[], args, []⟩).memory args) :
    ∃ (w : World) (tape : Tape) (i : Input), w.os = os ∧ (w.forCall tape i).Shaped Ybad.checked.prog ∧ i.vars = [] ∧ Input.okWide Ybad.checked.prog (w.forCall tape i) .any w.heap.size f i ∧
      ((s.pre enc Ybad.checked.prog fn [] false (w.forCall tape i).memory i.args ∧ X (w.forCall tape i).memory i.args) ∧ sizedMet enc Ybad.checked.prog fn (OpenSpec.ofChange s) false (w.forCall tape i).memory i.args) ∧ ({ modest := false } : Assume).holds Ybad.checked.prog (lone (Frame.enter Ybad.checked.prog f i.args .normal) [] (w.forCall tape i)) :=
  ⟨w0, fun _ _ => 0, ⟨#[], args, []⟩, hos, World.shaped_of_RefB hv hr, (Input.okWide_of_okWideB (base := 0) hok).1, (Input.okWide_of_okWideB hok).2, ⟨⟨ChangeSpec.pre_of_preB hpre, hx⟩, sizedMet_of_sizedB hsz⟩, by
    simp only [Assume.holds]
    exact ⟨by simp, by simp, fun _ => Modest.zero, by simp, by simp⟩⟩

theorem laid_four {W : World} {n4 n0 : String} (h4 : Ybad.prog.globalNamed n4 = some 1) (h0 : Ybad.prog.globalNamed n0 = some 3) (h : laidMet Ybad.prog [(n4, Rows.laid_net_netip_z4), (n0, Rows.laid_net_netip_z0)] W) :
    ∃ p4 : Addr, W.cell? ⟨1, 0, none⟩ = some (.pointer (some p4)) ∧ W.cell? ⟨3, 0, none⟩ = some (.pointer none) := by
  obtain ⟨ps, ⟨g, t, cs, fuel, p, q, hg, ht, hv, hd, ⟨g', t', cs', fuel', p', q', hg', ht', hv', hd', _, _⟩, _⟩, hnd, hrows⟩ := h
  obtain rfl := Option.some.inj (h4.symm.trans hg)
  obtain rfl := Option.some.inj (h0.symm.trans hg')
  obtain rfl : (36 : TypeId) = t := Option.some.inj ((show (Ybad.prog.globals[1]?).map (·.type) = some 36 by kernel_rfl).symm.trans ht)
  obtain rfl : (36 : TypeId) = t' := Option.some.inj ((show (Ybad.prog.globals[3]?).map (·.type) = some 36 by kernel_rfl).symm.trans ht')
  obtain ⟨l⟩ := cs
  obtain ⟨l'⟩ := cs'
  obtain ⟨a, q1, hc, _⟩ := handle_of_trod hd
  have hc' := nil_of_trod hd'
  simp only at hc hc'
  subst hc hc'
  exact ⟨a, by simpa using World.var?_cell hg hv 0, by simpa using World.var?_cell hg' hv' 0⟩
end Go.Proofs.YbulkbgqwDoor

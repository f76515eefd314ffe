import Derived.Test.YbulkbgqwFmtZz
import Derived.RowKitTokens
namespace Go.Proofs.YbulkbgqwFmt
open Go.RowKit Go.Extern.Stop Go.Stop Go.Extern

/-! ### What the model's entries for internal/reflectlite and the assertions give, at this program's types: 26: *zzs2882cerr; 28: its struct; 51: *fmt.wrapError; 68: *errors.errorString; 53: rtype -/
theorem Ybaf.typeOf26 (v : Value) (w : World) : (callFunc 10 #[.iface 26 v]).run Ybaf.prog w = .ok (.value (.iface 53 (.agg #[.pointer (some ⟨3, 26, none⟩)]))) w := by kernel_rfl
theorem Ybaf.typeOf51 (v : Value) (w : World) : (callFunc 10 #[.iface 51 v]).run Ybaf.prog w = .ok (.value (.iface 53 (.agg #[.pointer (some ⟨3, 51, none⟩)]))) w := by kernel_rfl
theorem Ybaf.typeOf68 (v : Value) (w : World) : (callFunc 10 #[.iface 68 v]).run Ybaf.prog w = .ok (.value (.iface 53 (.agg #[.pointer (some ⟨3, 68, none⟩)]))) w := by kernel_rfl
theorem Ybaf.comparable26 (w : World) : (callFunc 46 #[.agg #[.pointer (some ⟨3, 26, none⟩)]]).run Ybaf.prog w = .ok (.value (.bool true)) w := by kernel_rfl
theorem Ybaf.comparable68 (w : World) : (callFunc 46 #[.agg #[.pointer (some ⟨3, 68, none⟩)]]).run Ybaf.prog w = .ok (.value (.bool true)) w := by kernel_rfl
theorem Ybaf.methodComparable (v : Value) (w : World) : (Go.method 206 53 v "Comparable").run Ybaf.prog w = .ok (46, v) w := by kernel_rfl
theorem Ybaf.methodUnwrap51 (v : Value) (w : World) : (Go.method 206 51 v "Unwrap").run Ybaf.prog w = .ok (43, v) w := by kernel_rfl
theorem Ybaf.methodUnwrap26 (v : Value) (w : World) : (Go.method 206 26 v "Unwrap").run Ybaf.prog w = .ok (38, v) w := by kernel_rfl
theorem Ybaf.isComp26 : (Ybaf.prog.info? 26).map (·.comparable) = some true := by kernel_rfl
theorem Ybaf.isSize28 : (Ybaf.prog.info? 28).map (·.size) = some 2 := by kernel_rfl
theorem Ybaf.isComp68 : (Ybaf.prog.info? 68).map (·.comparable) = some true := by kernel_rfl
theorem Ybaf.isSize70 : (Ybaf.prog.info? 70).map (·.size) = some 1 := by kernel_rfl
theorem Ybaf.noIs51 (v : Value) (xT : TypeId) (w : World) : (Instr.typeAssert (.iface 51 v) xT 55 true).run Ybaf.prog w = .ok (.tuple #[.nilIface, .bool false]) w := run_typeAssert_lacksB Ybaf.underlying55 (by kernel_rfl) (by kernel_rfl) v xT w
theorem Ybaf.noIs26 (v : Value) (xT : TypeId) (w : World) : (Instr.typeAssert (.iface 26 v) xT 55 true).run Ybaf.prog w = .ok (.tuple #[.nilIface, .bool false]) w := run_typeAssert_lacksB Ybaf.underlying55 (by kernel_rfl) (by kernel_rfl) v xT w
theorem Ybaf.hasUnwrap51 (v : Value) (xT : TypeId) (w : World) : (Instr.typeAssert (.iface 51 v) xT 58 true).run Ybaf.prog w = .ok (.tuple #[.iface 51 v, .bool true]) w := run_typeAssert_hasB Ybaf.underlying58 (by kernel_rfl) v xT w
theorem Ybaf.hasUnwrap26 (v : Value) (xT : TypeId) (w : World) : (Instr.typeAssert (.iface 26 v) xT 58 true).run Ybaf.prog w = .ok (.tuple #[.iface 26 v, .bool true]) w := run_typeAssert_hasB Ybaf.underlying58 (by kernel_rfl) v xT w

/-- errors.Is(e, x), e a *fmt.wrapError that wraps x, x a *zzs2882cerr. -/
theorem is_zz (pb po : Nat) (b : Addr) (w : World) (h1 : w.cell? ⟨pb, po + 1, none⟩ = some (.iface 26 (.pointer (some b)))) :
    Calls Ybaf.prog 7 #[.iface 51 (.pointer (some ⟨pb, po, none⟩)), .iface 26 (.pointer (some b))] w fun e w' => e = .returned (.bool true) ∧ w' = w := by
  obtain ⟨i, hi, hcmp⟩ := Option.map_eq_some_iff.1 Ybaf.isComp26
  obtain ⟨j, hj, hjs⟩ := Option.map_eq_some_iff.1 Ybaf.isSize28
  have tT := Ybaf.typeOf26
  have cT := Ybaf.comparable26
  have mC := Ybaf.methodComparable
  have mU := Ybaf.methodUnwrap51
  have nW := Ybaf.noIs51
  have uW := Ybaf.hasUnwrap51
  have heq := run_eql_iface_ptr_same (P := Ybaf.prog) w b Ybaf.underlying23 Ybaf.underlying26 hi hcmp hj
  have hty := run_eql_iface_types (P := Ybaf.prog) 51 26 (.pointer (some ⟨pb, po, none⟩)) (.pointer (some b)) Ybaf.underlying23 (by decide) w
  go_enter Ybaf.func7, Ybaf.ntmps7
  go_wp2
  refine wp_loop_rounds 2 ?_
  rw [rounds_succ]
  go_wp2
  rw [rounds_succ]
  go_wp2
  go_ret
  exact ⟨rfl, rfl⟩

/-- errors.Is(e, io.EOF), e a *fmt.wrapError that wraps a *zzs2882cerr: by what that one's Unwrap gives: io.EOF itself. -/
theorem is_end_yes (pb po b : Nat) (a0 : Addr) (w : World) (h1 : w.cell? ⟨pb, po + 1, none⟩ = some (.iface 26 (.pointer (some ⟨b, 0, none⟩)))) (hu : w.cell? ⟨b, 1, none⟩ = some (.bool true)) (hg0 : w.cell? ⟨0, 0, none⟩ = some (.iface 68 (.pointer (some a0)))) :
    Calls Ybaf.prog 7 #[.iface 51 (.pointer (some ⟨pb, po, none⟩)), .iface 68 (.pointer (some a0))] w fun e w' => e = .returned (.bool true) ∧ w' = w := by
  obtain ⟨i, hi, hcmp⟩ := Option.map_eq_some_iff.1 Ybaf.isComp68
  obtain ⟨j, hj, hjs⟩ := Option.map_eq_some_iff.1 Ybaf.isSize70
  have tT := Ybaf.typeOf68
  have cT := Ybaf.comparable68
  have mC := Ybaf.methodComparable
  have mU := Ybaf.methodUnwrap51
  have mV := Ybaf.methodUnwrap26
  have nW := Ybaf.noIs51
  have nV := Ybaf.noIs26
  have uW := Ybaf.hasUnwrap51
  have uV := Ybaf.hasUnwrap26
  have heq := run_eql_iface_ptr_same (P := Ybaf.prog) w a0 Ybaf.underlying23 Ybaf.underlying68 hi hcmp hj
  have hty := fun v v' => run_eql_iface_types (P := Ybaf.prog) 51 68 v v' Ybaf.underlying23 (by decide) w
  have hty2 := fun v v' => run_eql_iface_types (P := Ybaf.prog) 26 68 v v' Ybaf.underlying23 (by decide) w
  go_enter Ybaf.func7, Ybaf.ntmps7
  go_wp2
  refine wp_loop_rounds 3 ?_
  rw [rounds_succ]
  go_wp2
  rw [rounds_succ]
  go_wp2
  rw [rounds_succ]
  go_wp2
  go_ret
  exact ⟨rfl, rfl⟩

/-- The same where that one's Unwrap gives nil. -/
theorem is_end_no (pb po b : Nat) (a0 : Addr) (w : World) (h1 : w.cell? ⟨pb, po + 1, none⟩ = some (.iface 26 (.pointer (some ⟨b, 0, none⟩)))) (hu : w.cell? ⟨b, 1, none⟩ = some (.bool false)) :
    Calls Ybaf.prog 7 #[.iface 51 (.pointer (some ⟨pb, po, none⟩)), .iface 68 (.pointer (some a0))] w fun e w' => e = .returned (.bool false) ∧ w' = w := by
  have tT := Ybaf.typeOf68
  have cT := Ybaf.comparable68
  have mC := Ybaf.methodComparable
  have mU := Ybaf.methodUnwrap51
  have mV := Ybaf.methodUnwrap26
  have nW := Ybaf.noIs51
  have nV := Ybaf.noIs26
  have uW := Ybaf.hasUnwrap51
  have uV := Ybaf.hasUnwrap26
  have hty := fun v v' => run_eql_iface_types (P := Ybaf.prog) 51 68 v v' Ybaf.underlying23 (by decide) w
  have hty2 := fun v v' => run_eql_iface_types (P := Ybaf.prog) 26 68 v v' Ybaf.underlying23 (by decide) w
  go_enter Ybaf.func7, Ybaf.ntmps7
  go_wp2
  refine wp_loop_rounds 2 ?_
  rw [rounds_succ]
  go_wp2
  rw [rounds_succ]
  go_wp2
  go_ret
  exact ⟨rfl, rfl⟩
end Go.Proofs.YbulkbgqwFmt

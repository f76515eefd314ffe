import Derived.Test.YbulkbgqwFmtIs
namespace Go.Proofs.YbulkbgqwFmt
open Go.RowKit Go.Extern.Stop Go.Stop Go.Extern

/-! ### errors.As at the target **zzs2882cerr (31) -/
theorem Ybaf.valueOf31 (t : Addr) (w : World) : (callFunc 12 #[.iface 31 (.pointer (some t))]).run Ybaf.prog w
    = .ok (.value (.agg #[.pointer (some ⟨3, 31, none⟩), .pointer (some ⟨w.heap.size, 0, none⟩), .int .u64 150])) (w.alloc (.cells #[.pointer (some t)] 31)) := by kernel_rfl
theorem Ybaf.valueOf26 (e : Addr) (w : World) : (callFunc 12 #[.iface 26 (.pointer (some e))]).run Ybaf.prog w
    = .ok (.value (.agg #[.pointer (some ⟨3, 26, none⟩), .pointer (some ⟨w.heap.size, 0, none⟩), .int .u64 150])) (w.alloc (.cells #[.pointer (some e)] 26)) := by kernel_rfl
theorem Ybaf.type31 (a : Addr) (w : World) : (callFunc 13 #[.agg #[.pointer (some ⟨3, 31, none⟩), .pointer (some a), .int .u64 150]]).run Ybaf.prog w
    = .ok (.value (.iface 53 (.agg #[.pointer (some ⟨3, 31, none⟩)]))) w := by kernel_rfl
theorem Ybaf.methodKind (h : Value) (w : World) : (Go.method 206 53 (.agg #[h]) "Kind").run Ybaf.prog w = .ok (34, h) w := by kernel_rfl
theorem Ybaf.kind31 (w : World) : (callFunc 34 #[.pointer (some ⟨3, 31, none⟩)]).run Ybaf.prog w = .ok (.value (.int .u8 22)) w := by kernel_rfl
theorem Ybaf.kind26 (w : World) : (callFunc 34 #[.pointer (some ⟨3, 26, none⟩)]).run Ybaf.prog w = .ok (.value (.int .u8 22)) w := by kernel_rfl
theorem Ybaf.methodElem (h : Value) (w : World) : (Go.method 206 53 (.agg #[h]) "Elem").run Ybaf.prog w = .ok (47, .agg #[h]) w := by kernel_rfl
theorem Ybaf.methodImplements (h : Value) (w : World) : (Go.method 206 53 (.agg #[h]) "Implements").run Ybaf.prog w = .ok (48, .agg #[h]) w := by kernel_rfl
theorem Ybaf.methodAssignableTo (h : Value) (w : World) : (Go.method 206 53 (.agg #[h]) "AssignableTo").run Ybaf.prog w = .ok (45, .agg #[h]) w := by kernel_rfl
theorem Ybaf.elem31 (w : World) : (callFunc 47 #[.agg #[.pointer (some ⟨3, 31, none⟩)]]).run Ybaf.prog w = .ok (.value (.iface 53 (.agg #[.pointer (some ⟨3, 26, none⟩)]))) w := by kernel_rfl
theorem Ybaf.implements26 (w : World) : (callFunc 48 #[.agg #[.pointer (some ⟨3, 26, none⟩)], .iface 53 (.agg #[.pointer (some ⟨3, 23, none⟩)])]).run Ybaf.prog w = .ok (.value (.bool true)) w := by kernel_rfl
theorem Ybaf.assignable26 (w : World) : (callFunc 45 #[.agg #[.pointer (some ⟨3, 26, none⟩)], .iface 53 (.agg #[.pointer (some ⟨3, 26, none⟩)])]).run Ybaf.prog w = .ok (.value (.bool true)) w := by kernel_rfl
theorem Ybaf.assignable51 (w : World) : (callFunc 45 #[.agg #[.pointer (some ⟨3, 51, none⟩)], .iface 53 (.agg #[.pointer (some ⟨3, 26, none⟩)])]).run Ybaf.prog w = .ok (.value (.bool false)) w := by kernel_rfl
theorem Ybaf.noAs51 (v : Value) (xT : TypeId) (w : World) : (Instr.typeAssert (.iface 51 v) xT 65 true).run Ybaf.prog w = .ok (.tuple #[.nilIface, .bool false]) w := run_typeAssert_lacksB Ybaf.underlying65 (by kernel_rfl) (by kernel_rfl) v xT w

/-! ### The entries that read or write memory -/
theorem rlm (z : Sem Value) (f : TypeId → Addr → Nat → Nat → Sem Value) (v : Value) :
    ReflectliteValue.method z f #[v] = (do match ← ReflectliteValue.parts v with | none => z | some (t, a, fl) => f t a fl (fl % 32)) := rfl
theorem Ybaf.parts31 (a : Addr) (w : World) : (ReflectliteValue.parts (.agg #[.pointer (some ⟨3, 31, none⟩), .pointer (some a), .int .u64 150])).run Ybaf.prog w = .ok (some (31, a, 150)) w := by kernel_rfl
theorem Ybaf.isNil31 (a p : Addr) (W : World) (ha : W.cell? a = some (.pointer (some p))) :
    (callFunc 14 #[.agg #[.pointer (some ⟨3, 31, none⟩), .pointer (some a), .int .u64 150]]).run Ybaf.prog W = .ok (.value (.bool false)) W := by
  rw [@run_callFunc_extern Ybaf.prog 14 _ (ReflectliteValue.method (ReflectliteValue.valueError "reflectlite.Value.IsNil" 0) ReflectliteValue.isNil) Ybaf.func14 (by kernel_rfl) (by kernel_rfl) (by kernel_rfl) (by kernel_rfl)]
  rw [rlm]
  simp only [Sem.run_bind, Ybaf.parts31, Result.andThen]
  simp [ReflectliteValue.isNil, loadVar, isAgg, underlying, Ybaf.underlying31, ha, Result.andThen]
theorem Ybaf.elemOf31 (w : World) : (Rtype.elem? 31).run Ybaf.prog w = .ok (some 26) w := by kernel_rfl
theorem Ybaf.mk26 (p : Addr) (w : World) : (ReflectliteValue.mk 26 p ReflectliteValue.flagAddr).run Ybaf.prog w = .ok (.agg #[.pointer (some ⟨3, 26, none⟩), .pointer (some p), .int .u64 406]) w := by kernel_rfl
theorem Ybaf.elemV31 (a p : Addr) (W : World) (ha : W.cell? a = some (.pointer (some p))) :
    (callFunc 18 #[.agg #[.pointer (some ⟨3, 31, none⟩), .pointer (some a), .int .u64 150]]).run Ybaf.prog W
      = .ok (.value (.agg #[.pointer (some ⟨3, 26, none⟩), .pointer (some p), .int .u64 406])) W := by
  rw [@run_callFunc_extern Ybaf.prog 18 _ (ReflectliteValue.method (ReflectliteValue.valueError "reflectlite.Value.Elem" 0) ReflectliteValue.elem) Ybaf.func18 (by kernel_rfl) (by kernel_rfl) (by kernel_rfl) (by kernel_rfl)]
  rw [rlm]
  simp only [Sem.run_bind, Ybaf.parts31, Result.andThen]
  simp [ReflectliteValue.elem, loadVar, isAgg, underlying, Ybaf.underlying31, ha, Result.andThen, Ybaf.elemOf31, Ybaf.mk26]
theorem rls (v x : Value) : ∃ s1 s2 s3 s4 s5 : String, ReflectliteValue.set #[v, x] = (do
    let (some (dst, a, fl), some (src, b, _)) := (← ReflectliteValue.parts v, ← ReflectliteValue.parts x)
      | unsupported (.noEntry s1)
    if fl / ReflectliteValue.flagAddr % 2 == 0 then unsupported (.noEntry s2)
    let val ← loadVar src b
    if ← Rtype.directlyAssignable dst src then storeVar dst a val
    else if ← Rtype.implements dst src then
      if (← Rtype.kind src) == 20 then
        match val with
        | .nilIface => unsupported (.noEntry s3)
        | _ => storeVar dst a val
      else storeVar dst a (.iface src val)
    else panicString (s4 ++ (← Rtype.spelt src) ++ s5 ++ (← Rtype.spelt dst))
    pure (.tuple #[])) := ⟨_, _, _, _, _, rfl⟩
theorem Ybaf.parts26a (a : Addr) (w : World) : (ReflectliteValue.parts (.agg #[.pointer (some ⟨3, 26, none⟩), .pointer (some a), .int .u64 406])).run Ybaf.prog w = .ok (some (26, a, 406)) w := by kernel_rfl
theorem Ybaf.parts26 (a : Addr) (w : World) : (ReflectliteValue.parts (.agg #[.pointer (some ⟨3, 26, none⟩), .pointer (some a), .int .u64 150])).run Ybaf.prog w = .ok (some (26, a, 150)) w := by kernel_rfl
theorem Ybaf.direct26 (w : World) : (Rtype.directlyAssignable 26 26).run Ybaf.prog w = .ok true w := by kernel_rfl
theorem Ybaf.set26 (ta b e : Addr) (old : Value) (W : World) (hb : W.cell? b = some (.pointer (some e))) (ht : W.cell? ta = some old) (hf : W.frozen? ta = false) :
    (callFunc 19 #[.agg #[.pointer (some ⟨3, 26, none⟩), .pointer (some ta), .int .u64 406], .agg #[.pointer (some ⟨3, 26, none⟩), .pointer (some b), .int .u64 150]]).run Ybaf.prog W
      = .ok (.value (.tuple #[])) (W.setCell ta (.pointer (some e))) := by
  rw [@run_callFunc_extern Ybaf.prog 19 _ ReflectliteValue.set Ybaf.func19 (by kernel_rfl) (by kernel_rfl) (by kernel_rfl) (by kernel_rfl)]
  obtain ⟨s1, s2, s3, s4, s5, hs⟩ := rls (.agg #[.pointer (some ⟨3, 26, none⟩), .pointer (some ta), .int .u64 406]) (.agg #[.pointer (some ⟨3, 26, none⟩), .pointer (some b), .int .u64 150])
  rw [hs]
  simp only [Sem.run_bind, Ybaf.parts26a, Ybaf.parts26, Result.andThen]
  simp [ReflectliteValue.flagAddr, loadVar, isAgg, underlying, Ybaf.underlying26, hb, Result.andThen, Ybaf.direct26, storeVar, Value.cells, storeCells, Addr.add]
  rw [run_store Ybaf.prog W ta _ _ (by rfl)]
  simp [ht, hf]
end Go.Proofs.YbulkbgqwFmt

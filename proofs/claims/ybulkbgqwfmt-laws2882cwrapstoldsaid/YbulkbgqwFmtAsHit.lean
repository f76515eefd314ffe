import Derived.Test.YbulkbgqwFmtAs
namespace Go.Proofs.YbulkbgqwFmt
open Go.RowKit Go.Extern.Stop Go.Stop Go.Extern

/-- The two new blocks that errors.As's reflectlite.Values lay, and the third in errors.as. -/
def asWorld (w : World) (t : Addr) : World := (((w.alloc (.cells #[.pointer (some t)] 31)).alloc (.cells #[.pointer (some ⟨3, 31, none⟩), .pointer (some ⟨w.heap.size, 0, none⟩), .int .u64 150] 42)).alloc (.cells #[.pointer (some ⟨3, 31, none⟩), .pointer (some ⟨w.heap.size, 0, none⟩), .int .u64 150] 42))

set_option maxHeartbeats 4000000 in
/-- errors.As(x, t), x a *fmt.wrapError that wraps a *zzs2882cerr, t a **zzs2882cerr. -/
theorem as_zz (pb : Nat) (e t : Addr) (old : Value) (w : World) (hg : w.cell? ⟨2, 0, none⟩ = some (.iface 53 (.agg #[.pointer (some ⟨3, 23, none⟩)]))) (h1 : w.cell? ⟨pb, 1, none⟩ = some (.iface 26 (.pointer (some e)))) (ht0 : w.cell? t = some old) (hf0 : w.frozen? t = false) :
    Calls Ybaf.prog 8 #[.iface 51 (.pointer (some ⟨pb, 0, none⟩)), .iface 31 (.pointer (some t))] w fun ev w' => ev = .returned (.bool true) ∧ w' = ((asWorld w t).alloc (.cells #[.pointer (some e)] 26)).setCell t (.pointer (some e)) := by
  unfold asWorld
  have tO := Ybaf.typeOf26
  have tW := Ybaf.typeOf51
  have mA := Ybaf.methodAssignableTo
  have as26 := Ybaf.assignable26
  have as51 := Ybaf.assignable51
  have nA := Ybaf.noAs51
  have uW := Ybaf.hasUnwrap51
  have mU := Ybaf.methodUnwrap51
  have v26 := Ybaf.valueOf26
  have f6 := Ybaf.valueOf31
  have f7 := Ybaf.type31
  have mK := Ybaf.methodKind
  have mE := Ybaf.methodElem
  have mI := Ybaf.methodImplements
  have k31 := Ybaf.kind31
  have k26 := Ybaf.kind26
  have e31 := Ybaf.elem31
  have i26 := Ybaf.implements26
  have n8 := Ybaf.isNil31 ⟨w.heap.size, 0, none⟩ t ((w.alloc (.cells #[.pointer (some t)] 31)).alloc (.cells #[.pointer (some ⟨3, 31, none⟩), .pointer (some ⟨w.heap.size, 0, none⟩), .int .u64 150] 42)) (by simp)
  have hlt : 2 < w.heap.size := World.block_lt_of_cell? _ _ hg
  have hpb : pb < w.heap.size := World.block_lt_of_cell? _ _ h1
  have htl : t.block < w.heap.size := World.block_lt_of_cell? _ _ ht0
  have hg2 : ((w.alloc (.cells #[.pointer (some t)] 31)).alloc (.cells #[.pointer (some ⟨3, 31, none⟩), .pointer (some ⟨w.heap.size, 0, none⟩), .int .u64 150] 42)).cell? ⟨2, 0, none⟩ = some (.iface 53 (.agg #[.pointer (some ⟨3, 23, none⟩)])) := by
    rw [World.cell?_alloc_lt _ _ ⟨2, 0, none⟩ (by simp; omega), World.cell?_alloc_lt _ _ ⟨2, 0, none⟩ hlt]; exact hg
  have h3 : (((w.alloc (.cells #[.pointer (some t)] 31)).alloc (.cells #[.pointer (some ⟨3, 31, none⟩), .pointer (some ⟨w.heap.size, 0, none⟩), .int .u64 150] 42)).alloc (.cells #[.pointer (some ⟨3, 31, none⟩), .pointer (some ⟨w.heap.size, 0, none⟩), .int .u64 150] 42)).cell? ⟨pb, 1, none⟩ = some (.iface 26 (.pointer (some e))) := by
    rw [World.cell?_alloc_lt _ _ ⟨pb, 1, none⟩ (by simp; omega), World.cell?_alloc_lt _ _ ⟨pb, 1, none⟩ (by simp; omega), World.cell?_alloc_lt _ _ ⟨pb, 1, none⟩ hpb]; exact h1
  have el := Ybaf.elemV31 ⟨w.heap.size, 0, none⟩ t (((w.alloc (.cells #[.pointer (some t)] 31)).alloc (.cells #[.pointer (some ⟨3, 31, none⟩), .pointer (some ⟨w.heap.size, 0, none⟩), .int .u64 150] 42)).alloc (.cells #[.pointer (some ⟨3, 31, none⟩), .pointer (some ⟨w.heap.size, 0, none⟩), .int .u64 150] 42)) (by rw [World.cell?_alloc_lt _ _ ⟨w.heap.size, 0, none⟩ (by simp; omega)]; simp)
  have st := Ybaf.set26 t ⟨w.heap.size + 1 + 1 + 1, 0, none⟩ e old ((((w.alloc (.cells #[.pointer (some t)] 31)).alloc (.cells #[.pointer (some ⟨3, 31, none⟩), .pointer (some ⟨w.heap.size, 0, none⟩), .int .u64 150] 42)).alloc (.cells #[.pointer (some ⟨3, 31, none⟩), .pointer (some ⟨w.heap.size, 0, none⟩), .int .u64 150] 42)).alloc (.cells #[.pointer (some e)] 26))
    (by rw [World.cell?_alloc_at _ _ _ _ (by simp)]; rfl)
    (by rw [World.cell?_alloc_lt _ _ t (by simp; omega), World.cell?_alloc_lt _ _ t (by simp; omega), World.cell?_alloc_lt _ _ t (by simp; omega), World.cell?_alloc_lt _ _ t htl]; exact ht0)
    (by rw [World.frozen?_alloc_old _ _ t (by simp; omega), World.frozen?_alloc_old _ _ t (by simp; omega), World.frozen?_alloc_old _ _ t (by simp; omega), World.frozen?_alloc_old _ _ t (Nat.ne_of_lt htl)]; exact hf0)
  clear hg h1 ht0 hf0
  go_enter Ybaf.func8, Ybaf.ntmps8
  go_wp2
  refine wp_loop_rounds 2 ?_
  rw [rounds_succ]
  go_wp2
  rw [rounds_succ]
  go_wp2
  go_ret
  exact ⟨rfl, rfl⟩
end Go.Proofs.YbulkbgqwFmt

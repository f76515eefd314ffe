import Derived.Test.YbulkbgqwFmtFacts
import Derived.WalkKit
import Derived.WalkSpells
import Derived.WalkLawsBesides
import Derived.LaidEql
import Derived.Stop.Asserts
import Derived.Stop.Texts
namespace Go.Proofs.YbulkbgqwFmt
open Go.RowKit Go.Extern.Stop Go.Stop Go.Extern
attribute [local go_sem] Ybaf.call16 Ybaf.guard Ybaf.fmt0 Ybaf.fmt0r Ybaf.actNil Ybaf.opNil Ybaf.ptr51 Ybaf.elem51

set_option maxRecDepth 100000 in
set_option maxHeartbeats 800000 in
/-- readError(nil). -/
theorem read_nil (F : Interp) (a0 a1 : Addr) (w : World) (hF : F.answers w.tape) (hg0 : w.cell? ⟨0, 0, none⟩ = some (.iface 68 (.pointer (some a0)))) (hg1 : w.cell? ⟨1, 0, none⟩ = some (.iface 68 (.pointer (some a1)))) :
    Calls Ybaf.prog 6 #[.nilIface] w fun e w' => e = .returned (.iface 51 (.pointer (some ⟨w.heap.size + 1, 0, none⟩))) ∧ ∃ s, w' = ((w.alloc (.cells #[.nilIface] 20)).alloc (.cells #[.string s, .nilIface] 91)).drew := by
  have hF' := answers_open hF
  have h0 := run_eql_iface_nil_left (P := Ybaf.prog) w 68 (.pointer (some a0)) Ybaf.underlying23
  have h1 := run_eql_iface_nil_left (P := Ybaf.prog) w 68 (.pointer (some a1)) Ybaf.underlying23
  go_enter Ybaf.func6, Ybaf.ntmps6
  go_wp2
  apply rows_value Ybaf.nextTurns
  case hr =>
    go_simp
    exact ⟨rfl, rfl⟩
  case h =>
    go_wp2
    go_ret
    exact ⟨rfl, _, rfl⟩
/-- '!=' between two interface values of different dynamic types. -/
theorem run_neq_types (t1 t2 : TypeId) (v1 v2 : Value) (hne : t1 ≠ t2) (w : World) : (binOp .neq 23 (.iface t1 v1) (.iface t2 v2)).run Ybaf.prog w = .ok (.bool true) w := by
  have h : ∀ d : Nat, (Op.equalIn (d + 1) 23 (.iface t1 v1) (.iface t2 v2)).run Ybaf.prog w = .ok false w := fun d => by simp [Op.equalIn, run_underlying Ybaf.underlying23, hne]
  simp only [binOp]
  simp [Op.equal, Op.maxDepth, h 9999]

/-- The block behind readError(nil). -/
theorem grown2_cell (w : World) (A B : Obj) (b o : Nat) (v : Value) (h : w.cell? ⟨b, o, none⟩ = some v) : (((w.alloc A).alloc B).drew).cell? ⟨b, o, none⟩ = some v := by
  have hlt := World.block_lt_of_cell? _ _ h
  rw [World.cell?_drew, World.cell?_alloc_past _ _ _ (by show b < (w.heap.push A).size; rw [Array.size_push]; simp at hlt; omega), World.cell?_alloc_past _ _ _ (by simpa using hlt)]
  exact h

set_option maxRecDepth 100000 in
set_option maxHeartbeats 800000 in
theorem nil_any (F : Interp) (k : Int) (a0 a1 : Addr) (w : World) (hF : F.answers w.tape) (hg0 : w.cell? ⟨0, 0, none⟩ = some (.iface 68 (.pointer (some a0)))) (hg1 : w.cell? ⟨1, 0, none⟩ = some (.iface 68 (.pointer (some a1)))) :
    Calls Ybaf.prog 5 #[.int .u8 k] w fun e w' => e = .returned (.bool true) ∧ ∃ s, w' = ((w.alloc (.cells #[.nilIface] 20)).alloc (.cells #[.string s, .nilIface] 91)).drew := by
  have n0 := fun v1 v2 W => run_neq_types 51 68 v1 v2 (by decide) W
  have HR : Hid (Calls Ybaf.prog 6 #[.nilIface] w fun e w' => e = .returned (.iface 51 (.pointer (some ⟨w.heap.size + 1, 0, none⟩))) ∧ ∃ s, w' = ((w.alloc (.cells #[.nilIface] 20)).alloc (.cells #[.string s, .nilIface] 91)).drew) := read_nil F a0 a1 w hF hg0 hg1
  have k0 := fun s => grown2_cell w (.cells #[.nilIface] 20) (.cells #[.string s, .nilIface] 91) 0 0 _ hg0
  have k1 := fun s => grown2_cell w (.cells #[.nilIface] 20) (.cells #[.string s, .nilIface] 91) 1 0 _ hg1
  clear hg0 hg1 hF
  go_enter Ybaf.func5, Ybaf.ntmps5
  go_wp2_with (go_at_call 6; refine HR.out.mono ?_; rintro e w' ⟨rfl, s, rfl⟩; have q0 := k0 s; have q1 := k1 s; clear k0 k1)
  go_ret
  exact ⟨rfl, _, rfl⟩
end Go.Proofs.YbulkbgqwFmt

import Derived.Test.YbulkbgqwFmtRows
import Derived.WalkKit
import Derived.WalkSpells
import Derived.WalkLawsBesides
import Derived.LaidEql
import Derived.Stop.Asserts
import Derived.RowKitTokens
namespace Go.Proofs.YbulkbgqwFmt
open Go.RowKit Go.Extern.Stop Go.Stop Go.Extern

theorem Ybaf.comp68 : (Ybaf.prog.info? 68).map (·.comparable) = some true := by kernel_rfl
theorem Ybaf.size70 : (Ybaf.prog.info? 70).map (·.size) = some 1 := by kernel_rfl

set_option maxHeartbeats 400000 in
/-- readError(io.EOF). -/
theorem read_eof (a0 : Addr) (w : World) (hg0 : w.cell? ⟨0, 0, none⟩ = some (.iface 68 (.pointer (some a0)))) :
    Calls Ybaf.prog 6 #[.iface 68 (.pointer (some a0))] w fun e w' => e = .returned (.iface 68 (.pointer (some a0))) ∧ w' = w := by
  obtain ⟨i, hi, hcmp⟩ := Option.map_eq_some_iff.1 Ybaf.comp68
  obtain ⟨j, hj, hjs⟩ := Option.map_eq_some_iff.1 Ybaf.size70
  have heq := run_eql_iface_ptr_same (P := Ybaf.prog) w a0 Ybaf.underlying23 Ybaf.underlying68 hi hcmp hj
  go_enter Ybaf.func6, Ybaf.ntmps6
  go_wp2
  go_ret
  exact ⟨rfl, rfl⟩

set_option maxHeartbeats 400000 in
/-- readError(io.ErrUnexpectedEOF). -/
theorem read_unexpected (a0 a1 : Addr) (c0 c1 : Array Value) (t0 t1 : TypeId) (w : World) (hg0 : w.cell? ⟨0, 0, none⟩ = some (.iface 68 (.pointer (some a0)))) (hg1 : w.cell? ⟨1, 0, none⟩ = some (.iface 68 (.pointer (some a1))))
    (hne : a1 ≠ a0) (hb1 : w.heap[a1.block]? = some (.cells c1 t1 (0, 0))) (hb0 : w.heap[a0.block]? = some (.cells c0 t0 (0, 0))) :
    Calls Ybaf.prog 6 #[.iface 68 (.pointer (some a1))] w fun e w' => e = .returned (.iface 68 (.pointer (some a1))) ∧ w' = w := by
  obtain ⟨i, hi, hcmp⟩ := Option.map_eq_some_iff.1 Ybaf.comp68
  obtain ⟨j, hj, hjs⟩ := Option.map_eq_some_iff.1 Ybaf.size70
  have heq := run_eql_iface_ptr_same (P := Ybaf.prog) w a1 Ybaf.underlying23 Ybaf.underlying68 hi hcmp hj
  have hno := run_eql_iface_ptr_other (P := Ybaf.prog) w Ybaf.underlying23 Ybaf.underlying68 hi hcmp hj (by rw [hjs]; decide) hne hb1 hb0
  go_enter Ybaf.func6, Ybaf.ntmps6
  go_wp2
  go_ret
  exact ⟨rfl, rfl⟩

set_option maxHeartbeats 400000 in
theorem ends_any (k : Int) (h0 : 0 ≤ k) (a0 a1 : Addr) (c0 c1 : Array Value) (t0 t1 : TypeId) (w : World) (hg0 : w.cell? ⟨0, 0, none⟩ = some (.iface 68 (.pointer (some a0)))) (hg1 : w.cell? ⟨1, 0, none⟩ = some (.iface 68 (.pointer (some a1))))
    (hne : a1 ≠ a0) (hb1 : w.heap[a1.block]? = some (.cells c1 t1 (0, 0))) (hb0 : w.heap[a0.block]? = some (.cells c0 t0 (0, 0))) :
    Calls Ybaf.prog 3 #[.int .u8 k] w fun e w' => e = .returned (.bool true) ∧ w' = w := by
  obtain ⟨i, hi, hcmp⟩ := Option.map_eq_some_iff.1 Ybaf.comp68
  obtain ⟨j, hj, hjs⟩ := Option.map_eq_some_iff.1 Ybaf.size70
  have heq0 := run_eql_iface_ptr_same (P := Ybaf.prog) w a0 Ybaf.underlying23 Ybaf.underlying68 hi hcmp hj
  have heq1 := run_eql_iface_ptr_same (P := Ybaf.prog) w a1 Ybaf.underlying23 Ybaf.underlying68 hi hcmp hj
  by_cases hk : k % 2 = 1
  · have hk' : (k % 2 == 1) = true := by simp [hk]
    have R := read_unexpected a0 a1 c0 c1 t0 t1 w hg0 hg1 hne hb1 hb0
    have HR : Hid (Calls Ybaf.prog 6 #[.iface 68 (.pointer (some a1))] w fun e w' => e = .returned (.iface 68 (.pointer (some a1))) ∧ w' = w) := R
    clear R hne hb1 hb0 hk
    go_enter Ybaf.func3, Ybaf.ntmps3
    go_wp2_with (go_at_call 6; refine HR.out.mono ?_; rintro e w' ⟨rfl, rfl⟩)
    go_ret
    exact ⟨rfl, rfl⟩
  · have hk' : (k % 2 == 1) = false := by simp [hk]
    have HR : Hid (Calls Ybaf.prog 6 #[.iface 68 (.pointer (some a0))] w fun e w' => e = .returned (.iface 68 (.pointer (some a0))) ∧ w' = w) := read_eof a0 w hg0
    clear hne hb1 hb0 hk
    go_enter Ybaf.func3, Ybaf.ntmps3
    go_wp2_with (go_at_call 6; refine HR.out.mono ?_; rintro e w' ⟨rfl, rfl⟩)
    go_ret
    exact ⟨rfl, rfl⟩
end Go.Proofs.YbulkbgqwFmt

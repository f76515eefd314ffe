import Derived.Test.YbulkbgqwDoorZero
import Derived.Test.YbulkbgqwDoorBits
namespace Go.Proofs.YbulkbgqwDoor
open Go.RowKit

set_option maxHeartbeats 800000 in
theorem from4_any (b0 b1 b2 b3 : Int) (h0 : 0 ≤ b0 ∧ b0 ≤ 255) (h1 : 0 ≤ b1 ∧ b1 ≤ 255) (h2 : 0 ≤ b2 ∧ b2 ≤ 255) (h3 : 0 ≤ b3 ∧ b3 ≤ 255) (p4 : Addr) (w : World) (c4 : w.cell? ⟨1, 0, none⟩ = some (.pointer (some p4))) :
    Calls Ybad.prog 7 #[.agg #[.int .u8 b0, .int .u8 b1, .int .u8 b2, .int .u8 b3]] w fun e w' => e = .returned (.agg #[.int .u64 0, .int .u64 (281470681743360 + b0 * 16777216 + b1 * 65536 + b2 * 256 + b3), .pointer (some p4)]) ∧ Below w.heap.size w w' := by
  obtain ⟨h00, h01⟩ := h0; obtain ⟨h10, h11⟩ := h1; obtain ⟨h20, h21⟩ := h2; obtain ⟨h30, h31⟩ := h3
  have c4' := cell_later (below2 w (.cells #[.int .u8 b0, .int .u8 b1, .int .u8 b2, .int .u8 b3] 23) (.cells #[.int .u64 0, .int .u64 0, .pointer none] 38)) c4
  go_enter Ybad.func7, Ybad.ntmps7
  go_wp2
  rw [join4 b0 b1 b2 b3 h00 h01 h10 h11 h20 h21 h30 h31]
  exact bodyPost_ret (v := .agg #[.int .u64 0, .int .u64 (281470681743360 + b0 * 16777216 + b1 * 65536 + b2 * 256 + b3), .pointer (some p4)]) (by simp [results, Ybad.results7, go_sem]) rfl ⟨rfl, below2 _ _ _⟩
end Go.Proofs.YbulkbgqwDoor

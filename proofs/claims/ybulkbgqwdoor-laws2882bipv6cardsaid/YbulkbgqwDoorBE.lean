import Derived.Test.YbulkbgqwDoorPut
namespace Go.Proofs.YbulkbgqwDoor
open Go.RowKit

/-- Eight octets, the greatest first, in one word. -/
theorem join8 (x0 x1 x2 x3 x4 x5 x6 x7 : Int) (h00 : 0 ≤ x0) (h01 : x0 ≤ 255) (h10 : 0 ≤ x1) (h11 : x1 ≤ 255) (h20 : 0 ≤ x2) (h21 : x2 ≤ 255) (h30 : 0 ≤ x3) (h31 : x3 ≤ 255) (h40 : 0 ≤ x4) (h41 : x4 ≤ 255) (h50 : 0 ≤ x5) (h51 : x5 ≤ 255) (h60 : 0 ≤ x6) (h61 : x6 ≤ 255) (h70 : 0 ≤ x7) (h71 : x7 ≤ 255) :
    bits .or .u64 (bits .or .u64 (bits .or .u64 (bits .or .u64 (bits .or .u64 (bits .or .u64 (bits .or .u64 x7 (x6 * 256)) (x5 * 65536)) (x4 * 16777216)) (x3 * 4294967296)) (x2 * 1099511627776)) (x1 * 281474976710656)) (x0 * 72057594037927936) =
      x7 + x6 * 256 + x5 * 65536 + x4 * 16777216 + x3 * 4294967296 + x2 * 1099511627776 + x1 * 281474976710656 + x0 * 72057594037927936 := by
  rw [u64_or8 x7 (x6 * 256) (by omega) (by omega) (by omega) (by omega) (by omega)]
  rw [u64_or16 (x7 + x6 * 256) (x5 * 65536) (by omega) (by omega) (by omega) (by omega) (by omega)]
  rw [u64_or24 (x7 + x6 * 256 + x5 * 65536) (x4 * 16777216) (by omega) (by omega) (by omega) (by omega) (by omega)]
  rw [u64_or32 (x7 + x6 * 256 + x5 * 65536 + x4 * 16777216) (x3 * 4294967296) (by omega) (by omega) (by omega) (by omega) (by omega)]
  rw [u64_or40 (x7 + x6 * 256 + x5 * 65536 + x4 * 16777216 + x3 * 4294967296) (x2 * 1099511627776) (by omega) (by omega) (by omega) (by omega) (by omega)]
  rw [u64_or48 (x7 + x6 * 256 + x5 * 65536 + x4 * 16777216 + x3 * 4294967296 + x2 * 1099511627776) (x1 * 281474976710656) (by omega) (by omega) (by omega) (by omega) (by omega)]
  rw [u64_or56 (x7 + x6 * 256 + x5 * 65536 + x4 * 16777216 + x3 * 4294967296 + x2 * 1099511627776 + x1 * 281474976710656) (x0 * 72057594037927936) (by omega) (by omega) (by omega) (by omega) (by omega)]
theorem ret_u64 {a b : Int} (h : a = b) : Ending.returned (.int .u64 a) = .returned (.int .u64 b) := by rw [h]

set_option maxHeartbeats 1600000 in
theorem beUint64 (g o c : Nat) (x0 x1 x2 x3 x4 x5 x6 x7 : Int) (h0 : 0 ≤ x0 ∧ x0 ≤ 255) (h1 : 0 ≤ x1 ∧ x1 ≤ 255) (h2 : 0 ≤ x2 ∧ x2 ≤ 255) (h3 : 0 ≤ x3 ∧ x3 ≤ 255) (h4 : 0 ≤ x4 ∧ x4 ≤ 255) (h5 : 0 ≤ x5 ∧ x5 ≤ 255) (h6 : 0 ≤ x6 ∧ x6 ≤ 255) (h7 : 0 ≤ x7 ∧ x7 ≤ 255) (w : World)
    (c0 : w.cell? ⟨g, o, none⟩ = some (.int .u8 x0)) (c1 : w.cell? ⟨g, o + 1, none⟩ = some (.int .u8 x1)) (c2 : w.cell? ⟨g, o + 2, none⟩ = some (.int .u8 x2)) (c3 : w.cell? ⟨g, o + 3, none⟩ = some (.int .u8 x3)) (c4 : w.cell? ⟨g, o + 4, none⟩ = some (.int .u8 x4)) (c5 : w.cell? ⟨g, o + 5, none⟩ = some (.int .u8 x5)) (c6 : w.cell? ⟨g, o + 6, none⟩ = some (.int .u8 x6)) (c7 : w.cell? ⟨g, o + 7, none⟩ = some (.int .u8 x7)) :
    Calls Ybad.prog 16 #[.slice (some ⟨g, o, none⟩) 8 c] w fun e w' => e = .returned (.int .u64 (x7 + x6 * 256 + x5 * 65536 + x4 * 16777216 + x3 * 4294967296 + x2 * 1099511627776 + x1 * 281474976710656 + x0 * 72057594037927936)) ∧ Below w.heap.size w w' := by
  obtain ⟨h00, h01⟩ := h0; obtain ⟨h10, h11⟩ := h1; obtain ⟨h20, h21⟩ := h2; obtain ⟨h30, h31⟩ := h3; obtain ⟨h40, h41⟩ := h4; obtain ⟨h50, h51⟩ := h5; obtain ⟨h60, h61⟩ := h6; obtain ⟨h70, h71⟩ := h7
  go_enter Ybad.func16, Ybad.ntmps16
  go_wp2
  go_quiet (fail)
  go_wp2
  go_ret
  exact ⟨ret_u64 (join8 x0 x1 x2 x3 x4 x5 x6 x7 h00 h01 h10 h11 h20 h21 h30 h31 h40 h41 h50 h51 h60 h61 h70 h71), below_drewN (Below.refl _ _) nq⟩
end Go.Proofs.YbulkbgqwDoor

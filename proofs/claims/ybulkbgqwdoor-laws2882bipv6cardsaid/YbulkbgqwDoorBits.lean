import Derived.Lib.EndianBits
namespace Go.Proofs.YbulkbgqwDoor

/-- The four octets and the mark of a mapped address, in one word. -/
theorem join4 (b0 b1 b2 b3 : Int) (h00 : 0 ≤ b0) (h01 : b0 ≤ 255) (h10 : 0 ≤ b1) (h11 : b1 ≤ 255) (h20 : 0 ≤ b2) (h21 : b2 ≤ 255) (h30 : 0 ≤ b3) (h31 : b3 ≤ 255) :
    bits .or .u64 (bits .or .u64 (bits .or .u64 (bits .or .u64 281470681743360 (b0 * 16777216)) (b1 * 65536)) (b2 * 256)) b3 = 281470681743360 + b0 * 16777216 + b1 * 65536 + b2 * 256 + b3 := by
  rw [bits_join .u64 64 (by decide) wraps_u64 32 281470681743360 (b0 * 16777216) (by omega) (by omega) (by omega) (by omega) (by omega) (by omega)]
  rw [bits_join .u64 64 (by decide) wraps_u64 24 (281470681743360 + b0 * 16777216) (b1 * 65536) (by omega) (by omega) (by omega) (by omega) (by omega) (by omega)]
  rw [bits_join .u64 64 (by decide) wraps_u64 16 (281470681743360 + b0 * 16777216 + b1 * 65536) (b2 * 256) (by omega) (by omega) (by omega) (by omega) (by omega) (by omega)]
  rw [bits_join .u64 64 (by decide) wraps_u64 8 (281470681743360 + b0 * 16777216 + b1 * 65536 + b2 * 256) b3 (by omega) (by omega) (by omega) (by omega) (by omega) (by omega)]
end Go.Proofs.YbulkbgqwDoor

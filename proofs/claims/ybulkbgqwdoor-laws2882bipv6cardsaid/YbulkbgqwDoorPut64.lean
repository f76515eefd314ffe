import Derived.Test.YbulkbgqwDoorPut
namespace Go.Proofs.YbulkbgqwDoor
open Go.RowKit

set_option maxHeartbeats 1600000 in
theorem put64 (g o c : Nat) (v : Int) (h0 : 0 ≤ v) (h1 : v < 18446744073709551616) (x0 x1 x2 x3 x4 x5 x6 x7 : Value) (w : World)
    (c0 : w.cell? ⟨g, o, none⟩ = some x0) (c1 : w.cell? ⟨g, o + 1, none⟩ = some x1) (c2 : w.cell? ⟨g, o + 2, none⟩ = some x2) (c3 : w.cell? ⟨g, o + 3, none⟩ = some x3) (c4 : w.cell? ⟨g, o + 4, none⟩ = some x4) (c5 : w.cell? ⟨g, o + 5, none⟩ = some x5) (c6 : w.cell? ⟨g, o + 6, none⟩ = some x6) (c7 : w.cell? ⟨g, o + 7, none⟩ = some x7)
    (hf : ∀ j, w.frozen? ⟨g, j, none⟩ = false) :
    Calls Ybad.prog 19 #[.slice (some ⟨g, o, none⟩) 8 c, .int .u64 v] w fun e w' => e = .returned (.tuple #[]) ∧ w' = (((((((w.setCell ⟨g, o, none⟩ (.int .u8 (v / 72057594037927936))).setCell ⟨g, o + 1, none⟩ (.int .u8 (v / 281474976710656 % 256))).setCell ⟨g, o + 2, none⟩ (.int .u8 (v / 1099511627776 % 256))).setCell ⟨g, o + 3, none⟩ (.int .u8 (v / 4294967296 % 256))).setCell ⟨g, o + 4, none⟩ (.int .u8 (v / 16777216 % 256))).setCell ⟨g, o + 5, none⟩ (.int .u8 (v / 65536 % 256))).setCell ⟨g, o + 6, none⟩ (.int .u8 (v / 256 % 256))).setCell ⟨g, o + 7, none⟩ (.int .u8 (v % 256)) := by
  go_enter Ybad.func19, Ybad.ntmps19
  go_wp2
  go_end0
  exact ⟨rfl, rfl⟩

/-- The sixteen octets of an address's two words. -/
def sixteen (hi lo : Int) : List Value :=
  [.int .u8 (hi / 72057594037927936), .int .u8 (hi / 281474976710656 % 256), .int .u8 (hi / 1099511627776 % 256), .int .u8 (hi / 4294967296 % 256), .int .u8 (hi / 16777216 % 256), .int .u8 (hi / 65536 % 256), .int .u8 (hi / 256 % 256), .int .u8 (hi % 256),
   .int .u8 (lo / 72057594037927936), .int .u8 (lo / 281474976710656 % 256), .int .u8 (lo / 1099511627776 % 256), .int .u8 (lo / 4294967296 % 256), .int .u8 (lo / 16777216 % 256), .int .u8 (lo / 65536 % 256), .int .u8 (lo / 256 % 256), .int .u8 (lo % 256)]

set_option maxHeartbeats 1600000 in
/-- AsSlice of an IPv6 address. -/
theorem asSlice_six (p4 : Addr) (z : Option Addr) (hi lo : Int) (h0 : 0 ≤ hi) (h1 : hi < 18446744073709551616) (l0 : 0 ≤ lo) (l1 : lo < 18446744073709551616) (w : World) (hk : Kind p4 z false false w) :
    Calls Ybad.prog 14 #[.agg #[.int .u64 hi, .int .u64 lo, .pointer z]] w fun e w' => ∃ s, e = .returned s ∧ Lies w' s 16 (sixteen hi lo) ∧ Below w.heap.size w w' := by
  obtain ⟨c4, c0, f0, f4⟩ := hk.later (below1 w (.cells #[.int .u64 hi, .int .u64 lo, .pointer z] 38))
  have e0 := f0 _ (Below.refl _ _)
  have e4 := f4 _ (Below.refl _ _)
  clear f0 f4 hk
  have hP1 := hide (put64 (w.heap.size + 1) 0 16 hi h0 h1 (.int .u8 0) (.int .u8 0) (.int .u8 0) (.int .u8 0) (.int .u8 0) (.int .u8 0) (.int .u8 0) (.int .u8 0) (((w.alloc (.cells #[.int .u64 hi, .int .u64 lo, .pointer z] 38)).alloc (.cells #[.int .u8 0, .int .u8 0, .int .u8 0, .int .u8 0, .int .u8 0, .int .u8 0, .int .u8 0, .int .u8 0, .int .u8 0, .int .u8 0, .int .u8 0, .int .u8 0, .int .u8 0, .int .u8 0, .int .u8 0, .int .u8 0] 42)).drew) (by simp) (by simp) (by simp) (by simp) (by simp) (by simp) (by simp) (by simp) (by simp))
  have hP2 := hide (put64 (w.heap.size + 1) 8 8 lo l0 l1 (.int .u8 0) (.int .u8 0) (.int .u8 0) (.int .u8 0) (.int .u8 0) (.int .u8 0) (.int .u8 0) (.int .u8 0) (((w.alloc (.cells #[.int .u64 hi, .int .u64 lo, .pointer z] 38)).alloc (.cells #[.int .u8 (hi / 72057594037927936), .int .u8 (hi / 281474976710656 % 256), .int .u8 (hi / 1099511627776 % 256), .int .u8 (hi / 4294967296 % 256), .int .u8 (hi / 16777216 % 256), .int .u8 (hi / 65536 % 256), .int .u8 (hi / 256 % 256), .int .u8 (hi % 256), .int .u8 0, .int .u8 0, .int .u8 0, .int .u8 0, .int .u8 0, .int .u8 0, .int .u8 0, .int .u8 0] 42)).drew.drew) (by simp) (by simp) (by simp) (by simp) (by simp) (by simp) (by simp) (by simp) (by simp))
  go_enter Ybad.func14, Ybad.ntmps14
  go_wp2_with fail
  go_region_held3 (fun w' => w'.cell? ⟨w.heap.size, 0, none⟩ = some (.int .u64 hi) ∧ w'.cell? ⟨w.heap.size, 1, none⟩ = some (.int .u64 lo))
    (simp [go_sem, World.cell?_alloc_past])
    (first | (go_at_call 19; refine hP1.out.mono ?_; rintro e w' ⟨rfl, rfl⟩))
  go_wp2_with fail
  go_region_held3 (fun w' => w'.cell? ⟨w.heap.size, 0, none⟩ = some (.int .u64 hi) ∧ w'.cell? ⟨w.heap.size, 1, none⟩ = some (.int .u64 lo))
    (simp [go_sem, World.cell?_alloc_past])
    (first | (go_at_call 19; refine hP2.out.mono ?_; rintro e w' ⟨rfl, rfl⟩))
  go_wp2
  go_ret
  exact ⟨_, rfl, lies_new w _ (sixteen hi lo) 42 16, ((below2 w _ _).drew).drew⟩
end Go.Proofs.YbulkbgqwDoor

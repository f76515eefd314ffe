import Derived.Test.YbulkbgqwDoorPut64
import Derived.Test.YbulkbgqwDoorBE
import Derived.Test.YbulkbgqwDoorIP4
namespace Go.Proofs.YbulkbgqwDoor
open Go.RowKit

/-- What AddrFrom16 keeps while it reads. -/
def held16 (p6 : Addr) (B : Nat) (V W : World) : Prop := W.cell? ⟨2, 0, none⟩ = some (.pointer (some p6)) ∧ Below B V W
theorem held16_b (p6 : Addr) {B : Nat} {V W : World} (h : held16 p6 B V W) : Below B V W := h.2
theorem held16_later {p6 : Addr} {B : Nat} {V W W' : World} (hb : Below W.heap.size W W') (hB : B ≤ W.heap.size) (h : held16 p6 B V W) : held16 p6 B V W' := ⟨cell_later hb h.1, h.2.trans (hb.mono hB)⟩
theorem held16_set {p6 : Addr} {B : Nat} {V W : World} (g : Nat) (h2 : 2 < B) (hg : B ≤ g) (h : held16 p6 B V W) (u0 u1 u2 : Value) : held16 p6 B V (((W.setCell ⟨g, 0, none⟩ u0).setCell ⟨g, 1, none⟩ u1).setCell ⟨g, 2, none⟩ u2) := by
  refine ⟨?_, ((h.2.setCell (by exact hg) _).setCell (by exact hg) _).setCell (by exact hg) _⟩
  rw [set_cell (by omega), set_cell (by omega), set_cell (by omega)]
  exact h.1

def hiOf (a0 a1 a2 a3 a4 a5 a6 a7 : Int) : Int := a7 + a6 * 256 + a5 * 65536 + a4 * 16777216 + a3 * 4294967296 + a2 * 1099511627776 + a1 * 281474976710656 + a0 * 72057594037927936
theorem hiOf_bounds (a0 a1 a2 a3 a4 a5 a6 a7 : Int) (h0 : 0 ≤ a0 ∧ a0 ≤ 255) (h1 : 0 ≤ a1 ∧ a1 ≤ 255) (h2 : 0 ≤ a2 ∧ a2 ≤ 255) (h3 : 0 ≤ a3 ∧ a3 ≤ 255) (h4 : 0 ≤ a4 ∧ a4 ≤ 255) (h5 : 0 ≤ a5 ∧ a5 ≤ 255) (h6 : 0 ≤ a6 ∧ a6 ≤ 255) (h7 : 0 ≤ a7 ∧ a7 ≤ 255) : 0 ≤ hiOf a0 a1 a2 a3 a4 a5 a6 a7 ∧ hiOf a0 a1 a2 a3 a4 a5 a6 a7 < 18446744073709551616 := by
  unfold hiOf
  omega

set_option maxHeartbeats 1600000 in
theorem from16_any (a0 a1 a2 a3 a4 a5 a6 a7 a8 a9 a10 a11 a12 a13 a14 a15 : Int) (hb : ∀ z ∈ [a0, a1, a2, a3, a4, a5, a6, a7, a8, a9, a10, a11, a12, a13, a14, a15], 0 ≤ z ∧ z ≤ 255) (p6 : Addr) (w : World) (c6 : w.cell? ⟨2, 0, none⟩ = some (.pointer (some p6))) :
    Calls Ybad.prog 9 #[.agg #[.int .u8 a0, .int .u8 a1, .int .u8 a2, .int .u8 a3, .int .u8 a4, .int .u8 a5, .int .u8 a6, .int .u8 a7, .int .u8 a8, .int .u8 a9, .int .u8 a10, .int .u8 a11, .int .u8 a12, .int .u8 a13, .int .u8 a14, .int .u8 a15]] w fun e w' => e = .returned (.agg #[.int .u64 (hiOf a0 a1 a2 a3 a4 a5 a6 a7), .int .u64 (hiOf a8 a9 a10 a11 a12 a13 a14 a15), .pointer (some p6)]) ∧ Below w.heap.size w w' := by
  have h0 := hb a0 (by simp)
  have h1 := hb a1 (by simp)
  have h2 := hb a2 (by simp)
  have h3 := hb a3 (by simp)
  have h4 := hb a4 (by simp)
  have h5 := hb a5 (by simp)
  have h6 := hb a6 (by simp)
  have h7 := hb a7 (by simp)
  have h8 := hb a8 (by simp)
  have h9 := hb a9 (by simp)
  have h10 := hb a10 (by simp)
  have h11 := hb a11 (by simp)
  have h12 := hb a12 (by simp)
  have h13 := hb a13 (by simp)
  have h14 := hb a14 (by simp)
  have h15 := hb a15 (by simp)
  clear hb
  have H0 : Hid (∀ W, Below (w.heap.size + 1) (w.alloc (.cells #[.int .u8 a0, .int .u8 a1, .int .u8 a2, .int .u8 a3, .int .u8 a4, .int .u8 a5, .int .u8 a6, .int .u8 a7, .int .u8 a8, .int .u8 a9, .int .u8 a10, .int .u8 a11, .int .u8 a12, .int .u8 a13, .int .u8 a14, .int .u8 a15] 42)) W → Calls Ybad.prog 16 #[.slice (some ⟨w.heap.size, 0, none⟩) 8 16] W fun e w' => e = .returned (.int .u64 (hiOf a0 a1 a2 a3 a4 a5 a6 a7)) ∧ Below W.heap.size W w') := by
    intro W hW
    exact beUint64 w.heap.size 0 16 a0 a1 a2 a3 a4 a5 a6 a7 h0 h1 h2 h3 h4 h5 h6 h7 W (by rw [hW.cell (by simp)]; simp) (by rw [hW.cell (by simp)]; simp) (by rw [hW.cell (by simp)]; simp) (by rw [hW.cell (by simp)]; simp) (by rw [hW.cell (by simp)]; simp) (by rw [hW.cell (by simp)]; simp) (by rw [hW.cell (by simp)]; simp) (by rw [hW.cell (by simp)]; simp)
  have H8 : Hid (∀ W, Below (w.heap.size + 1) (w.alloc (.cells #[.int .u8 a0, .int .u8 a1, .int .u8 a2, .int .u8 a3, .int .u8 a4, .int .u8 a5, .int .u8 a6, .int .u8 a7, .int .u8 a8, .int .u8 a9, .int .u8 a10, .int .u8 a11, .int .u8 a12, .int .u8 a13, .int .u8 a14, .int .u8 a15] 42)) W → Calls Ybad.prog 16 #[.slice (some ⟨w.heap.size, 8, none⟩) 8 8] W fun e w' => e = .returned (.int .u64 (hiOf a8 a9 a10 a11 a12 a13 a14 a15)) ∧ Below W.heap.size W w') := by
    intro W hW
    exact beUint64 w.heap.size 8 8 a8 a9 a10 a11 a12 a13 a14 a15 h8 h9 h10 h11 h12 h13 h14 h15 W (by rw [hW.cell (by simp)]; simp) (by rw [hW.cell (by simp)]; simp) (by rw [hW.cell (by simp)]; simp) (by rw [hW.cell (by simp)]; simp) (by rw [hW.cell (by simp)]; simp) (by rw [hW.cell (by simp)]; simp) (by rw [hW.cell (by simp)]; simp) (by rw [hW.cell (by simp)]; simp)
  obtain ⟨hi, hhi⟩ : ∃ hi, hi = hiOf a0 a1 a2 a3 a4 a5 a6 a7 := ⟨_, rfl⟩
  obtain ⟨lo, hlo⟩ : ∃ lo, lo = hiOf a8 a9 a10 a11 a12 a13 a14 a15 := ⟨_, rfl⟩
  rw [← hhi] at H0 ⊢
  rw [← hlo] at H8 ⊢
  clear hhi hlo h0 h1 h2 h3 h4 h5 h6 h7 h8 h9 h10 h11 h12 h13 h14 h15
  have h2 : 2 < w.heap.size + 1 := by have := World.block_lt_of_cell? _ _ c6; simp at this; omega
  have hD0 : Hid (held16 p6 (w.heap.size + 1) (w.alloc (.cells #[.int .u8 a0, .int .u8 a1, .int .u8 a2, .int .u8 a3, .int .u8 a4, .int .u8 a5, .int .u8 a6, .int .u8 a7, .int .u8 a8, .int .u8 a9, .int .u8 a10, .int .u8 a11, .int .u8 a12, .int .u8 a13, .int .u8 a14, .int .u8 a15] 42)) ((w.alloc (.cells #[.int .u8 a0, .int .u8 a1, .int .u8 a2, .int .u8 a3, .int .u8 a4, .int .u8 a5, .int .u8 a6, .int .u8 a7, .int .u8 a8, .int .u8 a9, .int .u8 a10, .int .u8 a11, .int .u8 a12, .int .u8 a13, .int .u8 a14, .int .u8 a15] 42)).alloc (.cells #[.int .u64 0, .int .u64 0, .pointer none] 38)).drew) := by
    refine ⟨cell_later ((below2 w _ _).drew) c6, ?_⟩
    exact ((Below.refl _ _).alloc (by simp) _).drew
  go_enter Ybad.func9, Ybad.ntmps9
  go_wp2_with fail
  go_region_held3 (fun w' => w'.cell? ⟨2, 0, none⟩ = some (.pointer (some p6)) ∧ Below (w.heap.size + 1) (w.alloc (.cells #[.int .u8 a0, .int .u8 a1, .int .u8 a2, .int .u8 a3, .int .u8 a4, .int .u8 a5, .int .u8 a6, .int .u8 a7, .int .u8 a8, .int .u8 a9, .int .u8 a10, .int .u8 a11, .int .u8 a12, .int .u8 a13, .int .u8 a14, .int .u8 a15] 42)) w')
    (first
      | exact held16_set _ h2 (by omega) hh2.out _ _ _
      | exact hh2.out
      | exact hh1.out
      | exact hD0.out)
    (first
      | (go_at_call_of 16 (Value.slice (some ⟨w.heap.size, 0, none⟩) 8 16); refine (H0.out _ (held16_b p6 (by assumption))).mono ?_; rintro e w1 ⟨rfl, hb1⟩
         have hz1 := hb1.size
         simp only [World.size_alloc, World.size_drew] at hz1
         have hh1 : Hid (held16 p6 (w.heap.size + 1) (w.alloc (.cells #[.int .u8 a0, .int .u8 a1, .int .u8 a2, .int .u8 a3, .int .u8 a4, .int .u8 a5, .int .u8 a6, .int .u8 a7, .int .u8 a8, .int .u8 a9, .int .u8 a10, .int .u8 a11, .int .u8 a12, .int .u8 a13, .int .u8 a14, .int .u8 a15] 42)) w1) := held16_later hb1 (by simp) (by assumption)
         obtain ⟨k1, kf1⟩ := bcell hb1
         have hq1 := Nat.lt_of_succ_le hz1
         clear hb1)
      | (go_at_call_of 16 (Value.slice (some ⟨w.heap.size, 8, none⟩) 8 8); refine (H8.out _ (held16_b p6 (by assumption))).mono ?_; rintro e w2 ⟨rfl, hb2⟩
         have hh2 : Hid (held16 p6 (w.heap.size + 1) (w.alloc (.cells #[.int .u8 a0, .int .u8 a1, .int .u8 a2, .int .u8 a3, .int .u8 a4, .int .u8 a5, .int .u8 a6, .int .u8 a7, .int .u8 a8, .int .u8 a9, .int .u8 a10, .int .u8 a11, .int .u8 a12, .int .u8 a13, .int .u8 a14, .int .u8 a15] 42)) w2) := held16_later hb2 (by omega) (by assumption)
         obtain ⟨k2, kf2⟩ := bcell hb2
         clear hb2))
  all_goals go_wp2
  have y0 := (k2 (w.heap.size + 1) 0 hq1).trans (k1 (w.heap.size + 1) 0 (by simp))
  have y1 := (k2 (w.heap.size + 1) 1 hq1).trans (k1 (w.heap.size + 1) 1 (by simp))
  have y2 := (k2 (w.heap.size + 1) 2 hq1).trans (k1 (w.heap.size + 1) 2 (by simp))
  refine bodyPost_ret (v := .agg #[.int .u64 hi, .int .u64 lo, .pointer (some p6)]) ?hr rfl ⟨rfl, ?hbl⟩
  case hr =>
    simp [go_sem] at y0 y1 y2
    simp [results, Ybad.results9, go_sem, y0, y1, y2]
  case hbl =>
    rename_i hHeld
    exact (below1 w _).trans (hHeld.2.mono (by omega))
end Go.Proofs.YbulkbgqwDoor

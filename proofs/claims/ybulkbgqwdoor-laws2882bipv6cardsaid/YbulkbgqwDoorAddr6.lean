import Derived.Test.YbulkbgqwDoorFrom16
import Derived.Test.YbulkbgqwDoorOpen
namespace Go.Proofs.YbulkbgqwDoor
open Go.RowKit

theorem lt_of_row {w : World} {b : Nat} {o : Obj} (h : w.heap[b]? = some o) : b < w.heap.size := by
  rcases Nat.lt_or_ge b w.heap.size with h' | h'
  · exact h'
  · rw [Array.getElem?_eq_none h'] at h; cases h

theorem kind_six (p4 p6 : Addr) (w : World) (c4 : w.cell? ⟨1, 0, none⟩ = some (.pointer (some p4))) (c0 : w.cell? ⟨3, 0, none⟩ = some (.pointer none)) {c c' : Array Value} {t t' : TypeId} (hne : p6 ≠ p4) (h6 : w.heap[p6.block]? = some (.cells c t (0, 0))) (h4 : w.heap[p4.block]? = some (.cells c' t' (0, 0))) : Kind p4 (some p6) false false w :=
  ⟨c4, c0, fun W' _ => eq_some_none p6 W', fun W' hb => eq_other p6 p4 W' hne ((hb.block _ (lt_of_row h6)).trans h6) ((hb.block _ (lt_of_row h4)).trans h4)⟩

theorem sixteen_one (hi lo : Int) : ∀ u ∈ sixteen hi lo, u.oneCell' = true := by
  intro u hu
  simp only [sixteen, List.mem_cons, List.not_mem_nil, or_false] at hu
  rcases hu with rfl | rfl | rfl | rfl | rfl | rfl | rfl | rfl | rfl | rfl | rfl | rfl | rfl | rfl | rfl | rfl <;> rfl

theorem address_six (code vendor : Int) (m : Bool) (hi lo : Int) (h0 : 0 ≤ hi) (h1 : hi < 18446744073709551616) (l0 : 0 ≤ lo) (l1 : lo < 18446744073709551616) (hm : ((hi == 0) && (lo / 4294967296 == 65535)) = false) (p4 p6 : Addr) (w : World) (hk : Kind p4 (some p6) false false w) :
    Calls Ybad.prog 6 #[.agg #[.int .u32 code, .int .u32 vendor, .bool m], .agg #[.int .u64 hi, .int .u64 lo, .pointer (some p6)]] w fun e w' =>
      ∃ s, e = .returned (.agg #[.int .u32 code, .int .u8 (flg vendor m), .int .u32 vendor, s]) ∧ w'.ownsRow w.heap.size 5 1 s 18 (.int .u8 0 :: .int .u8 2 :: sixteen hi lo) ∧ Below w.heap.size w w' :=
  address_any code vendor m hi lo (some p6) (some p6) true 16 (sixteen hi lo) (sixteen_one hi lo) (by omega) w
    (fun W hb => unmap_not p4 (some p6) false false hi lo l0 W (hk.later hb) (by rw [hm]; rfl))
    (fun W hb => (is6_any p4 (some p6) false false hi lo W (hk.later hb)).mono fun e w' ⟨h1, h2⟩ => ⟨h1, by rw [h2]; exact below1 _ _⟩)
    (fun W hb => asSlice_six p4 (some p6) hi lo h0 h1 l0 l1 W (hk.later hb))

theorem address_mapped (code vendor : Int) (m : Bool) (hi lo : Int) (l0 : 0 ≤ lo) (hm : ((hi == 0) && (lo / 4294967296 == 65535)) = true) (p4 p6 : Addr) (w : World) (hk : Kind p4 (some p6) false false w) :
    Calls Ybad.prog 6 #[.agg #[.int .u32 code, .int .u32 vendor, .bool m], .agg #[.int .u64 hi, .int .u64 lo, .pointer (some p6)]] w fun e w' =>
      ∃ s, e = .returned (.agg #[.int .u32 code, .int .u8 (flg vendor m), .int .u32 vendor, s]) ∧ w'.ownsRow w.heap.size 5 1 s 6 (.int .u8 0 :: .int .u8 1 :: four lo) ∧ Below w.heap.size w w' :=
  have hk4 : Kind p4 (some p4) false true w := kind_four p4 w hk.c4 hk.c0
  address_any code vendor m hi lo (some p6) (some p4) false 4 (four lo) (four_one lo) (by omega) w
    (fun W hb => unmap_yes p4 (some p6) false false hi lo l0 W (hk.later hb) (by rw [hm]; rfl))
    (fun W hb => (is6_any p4 (some p4) false true hi lo W (hk4.later hb)).mono fun e w' ⟨h1, h2⟩ => ⟨h1, by rw [h2]; exact below1 _ _⟩)
    (fun W hb => asSlice_four p4 (some p4) hi lo W (hk4.later hb))

/-- Is this address an IPv4-mapped one, by its octets? -/
def mappedB (bs : List Int) : Bool := ((bs[10]? == some 255) && (bs[11]? == some 255)) && (bs.take 10).all (· == 0)

section
variable (a0 a1 a2 a3 a4 a5 a6 a7 a8 a9 a10 a11 a12 a13 a14 a15 : Int)
theorem bound16 (hb : ∀ z ∈ [a0, a1, a2, a3, a4, a5, a6, a7, a8, a9, a10, a11, a12, a13, a14, a15], 0 ≤ z ∧ z ≤ 255) :
    (0 ≤ a0 ∧ a0 ≤ 255) ∧ (0 ≤ a1 ∧ a1 ≤ 255) ∧ (0 ≤ a2 ∧ a2 ≤ 255) ∧ (0 ≤ a3 ∧ a3 ≤ 255) ∧ (0 ≤ a4 ∧ a4 ≤ 255) ∧ (0 ≤ a5 ∧ a5 ≤ 255) ∧ (0 ≤ a6 ∧ a6 ≤ 255) ∧ (0 ≤ a7 ∧ a7 ≤ 255) ∧ (0 ≤ a8 ∧ a8 ≤ 255) ∧ (0 ≤ a9 ∧ a9 ≤ 255) ∧ (0 ≤ a10 ∧ a10 ≤ 255) ∧ (0 ≤ a11 ∧ a11 ≤ 255) ∧ (0 ≤ a12 ∧ a12 ≤ 255) ∧ (0 ≤ a13 ∧ a13 ≤ 255) ∧ (0 ≤ a14 ∧ a14 ≤ 255) ∧ (0 ≤ a15 ∧ a15 ≤ 255) := by
  simpa using hb

theorem mappedB_16 : mappedB [a0, a1, a2, a3, a4, a5, a6, a7, a8, a9, a10, a11, a12, a13, a14, a15] = true ↔ (a10 = 255 ∧ a11 = 255) ∧ a0 = 0 ∧ a1 = 0 ∧ a2 = 0 ∧ a3 = 0 ∧ a4 = 0 ∧ a5 = 0 ∧ a6 = 0 ∧ a7 = 0 ∧ a8 = 0 ∧ a9 = 0 := by
  simp [mappedB]

theorem mapped_words (hb : ∀ z ∈ [a0, a1, a2, a3, a4, a5, a6, a7, a8, a9, a10, a11, a12, a13, a14, a15], 0 ≤ z ∧ z ≤ 255) :
    ((hiOf a0 a1 a2 a3 a4 a5 a6 a7 == 0) && (hiOf a8 a9 a10 a11 a12 a13 a14 a15 / 4294967296 == 65535)) = mappedB [a0, a1, a2, a3, a4, a5, a6, a7, a8, a9, a10, a11, a12, a13, a14, a15] := by
  obtain ⟨h0, h1, h2, h3, h4, h5, h6, h7, h8, h9, h10, h11, h12, h13, h14, h15⟩ := bound16 a0 a1 a2 a3 a4 a5 a6 a7 a8 a9 a10 a11 a12 a13 a14 a15 hb
  rw [Bool.eq_iff_iff]
  rw [mappedB_16 a0 a1 a2 a3 a4 a5 a6 a7 a8 a9 a10 a11 a12 a13 a14 a15]
  simp only [Bool.and_eq_true, beq_iff_eq, hiOf]
  constructor
  · rintro ⟨e1, e2⟩
    refine ⟨⟨by omega, by omega⟩, by omega, by omega, by omega, by omega, by omega, by omega, by omega, by omega, by omega, by omega⟩
  · rintro ⟨⟨e10, e11⟩, e0, e1, e2, e3, e4, e5, e6, e7, e8, e9⟩
    subst e0 e1 e2 e3 e4 e5 e6 e7 e8 e9 e10 e11
    exact ⟨by omega, by omega⟩

theorem sixteen_words (hb : ∀ z ∈ [a0, a1, a2, a3, a4, a5, a6, a7, a8, a9, a10, a11, a12, a13, a14, a15], 0 ≤ z ∧ z ≤ 255) :
    sixteen (hiOf a0 a1 a2 a3 a4 a5 a6 a7) (hiOf a8 a9 a10 a11 a12 a13 a14 a15) = cells8 [a0, a1, a2, a3, a4, a5, a6, a7, a8, a9, a10, a11, a12, a13, a14, a15] := by
  obtain ⟨h0, h1, h2, h3, h4, h5, h6, h7, h8, h9, h10, h11, h12, h13, h14, h15⟩ := bound16 a0 a1 a2 a3 a4 a5 a6 a7 a8 a9 a10 a11 a12 a13 a14 a15 hb
  simp only [sixteen, cells8, List.map, hiOf, List.cons.injEq, Value.int.injEq, true_and, and_true]
  refine ⟨?_, ?_, ?_, ?_, ?_, ?_, ?_, ?_, ?_, ?_, ?_, ?_, ?_, ?_, ?_, ?_⟩ <;> omega

theorem four_words (hb : ∀ z ∈ [a0, a1, a2, a3, a4, a5, a6, a7, a8, a9, a10, a11, a12, a13, a14, a15], 0 ≤ z ∧ z ≤ 255) :
    four (hiOf a8 a9 a10 a11 a12 a13 a14 a15) = [.int .u8 a12, .int .u8 a13, .int .u8 a14, .int .u8 a15] := by
  obtain ⟨h0, h1, h2, h3, h4, h5, h6, h7, h8, h9, h10, h11, h12, h13, h14, h15⟩ := bound16 a0 a1 a2 a3 a4 a5 a6 a7 a8 a9 a10 a11 a12 a13 a14 a15 hb
  have e : hiOf a8 a9 a10 a11 a12 a13 a14 a15 % 4294967296 = a12 * 16777216 + a13 * 65536 + a14 * 256 + a15 := by unfold hiOf; omega
  unfold four
  rw [e]
  simp only [List.cons.injEq, Value.int.injEq, true_and, and_true]
  refine ⟨?_, ?_, ?_, ?_⟩ <;> omega
end
end Go.Proofs.YbulkbgqwDoor

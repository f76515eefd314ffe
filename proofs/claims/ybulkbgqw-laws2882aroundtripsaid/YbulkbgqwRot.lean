import Derived.Test.YbulkbgqwRows
import Derived.WalkKit
import Derived.WalkSpells
import Derived.WalkLawsBesides
import Derived.Laws.CopyOwn
import Derived.BigQuiet
import Derived.RowKit3
namespace Go.Proofs.Ybulkbgqw
open Go.RowKit

/-- Sixteen zero octets. -/
def zeros16 : List Value := List.replicate 16 (Value.int .u8 0)

theorem size5 (W : World) : (sizeOf 5).run Yba.prog W = .ok 1 W := by kernel_rfl
theorem arrayLen22 : Yba.prog.arrayLen 22 = 16 := by kernel_rfl
theorem elem22 : Yba.prog.elem 22 = 5 := by kernel_rfl
theorem under22 : Yba.prog.underlying 22 = some (.array (Yba.prog.arrayLen 22) (Yba.prog.elem 22)) := by rw [arrayLen22, elem22]; exact Yba.underlying22

theorem addr_add (b o i : Nat) : (⟨b, o, none⟩ : Addr).add i = ⟨b, o + i, none⟩ := by unfold Addr.add; split <;> simp_all

/-- 'x[l:]' of a [16]byte at block b. -/
theorem slice_from (b k : Nat) (l : Int) (hk : k ≤ 16) (hl : l = k) : ∃ p : Option Addr, Hid (k < 16 → p = some ⟨b, k, none⟩) ∧ ∀ W, (Instr.sliceAt 22 (.pointer (some ⟨b, 0, none⟩)) (some (.int .i64 l)) none none).run Yba.prog W = .ok (.slice p (16 - k) (16 - k)) W := by
  subst hl
  refine ⟨some (if 16 = k then ⟨b, 0, none⟩ else (⟨b, 0, none⟩ : Addr).add (k * 1)), fun h => ?_, fun W => ?_⟩
  · rw [if_neg (by omega), addr_add]; simp
  · rw [run_sliceAt_array_l W 22 ⟨b, 0, none⟩ under22 .i64 k (by omega) (by rw [arrayLen22]; omega), elem22, size5, arrayLen22]
    simp [slicedAt]

/-- 'x[:h]' of a [16]byte at block b. -/
theorem slice_to (b k : Nat) (hk : k ≤ 16) : ∀ W, (Instr.sliceAt 22 (.pointer (some ⟨b, 0, none⟩)) none (some (.int .i64 k)) none).run Yba.prog W = .ok (.slice (some ⟨b, 0, none⟩) k 16) W := by
  intro W
  rw [run_sliceAt_array_h W 22 ⟨b, 0, none⟩ under22 .i64 k (by omega) (by rw [arrayLen22]; omega), elem22, size5, arrayLen22]
  simp [slicedAt, addr_add]

theorem heap3_2 (w : World) (A B C : Obj) : (((w.alloc A).alloc B).alloc C).heap[w.heap.size + 1 + 1]? = some C := by
  show (((w.heap.push A).push B).push C)[w.heap.size + 1 + 1]? = some C
  simp only [Array.getElem?_push, Array.size_push]; simp
theorem heap3_0 (w : World) (A B C : Obj) : (((w.alloc A).alloc B).alloc C).heap[w.heap.size]? = some A := by
  show (((w.heap.push A).push B).push C)[w.heap.size]? = some A
  simp only [Array.getElem?_push, Array.size_push]
  rw [if_neg (by omega), if_neg (by omega), if_pos trivial]
theorem heap3_1 (w : World) (A B C : Obj) : (((w.alloc A).alloc B).alloc C).heap[w.heap.size + 1]? = some B := by
  show (((w.heap.push A).push B).push C)[w.heap.size + 1]? = some B
  simp only [Array.getElem?_push, Array.size_push]
  rw [if_neg (by omega), if_pos trivial]

/-- A row's cells from place n on. -/
theorem src_row {w : World} {b : Nat} {cs : List Value} {t : TypeId} (h : w.heap[b]? = some (.cells cs.toArray t (0, 0))) (n : Nat) (j : Nat) (v : Value) (hv : (cs.drop n)[j]? = some v) : w.cell? ((⟨b, n, none⟩ : Addr).add j) = some v := by
  rw [addr_add, cell_of_row w b (n + j) cs.toArray t (0, 0) h]
  simpa [List.getElem?_drop] using hv
theorem src_row_take {w : World} {b : Nat} {cs : List Value} {t : TypeId} (h : w.heap[b]? = some (.cells cs.toArray t (0, 0))) (n : Nat) (j : Nat) (v : Value) (hv : (cs.take n)[j]? = some v) : w.cell? ((⟨b, 0, none⟩ : Addr).add j) = some v := by
  rw [addr_add, cell_of_row w b (0 + j) cs.toArray t (0, 0) h]
  rw [List.getElem?_take] at hv
  split at hv
  · simpa using hv
  · cases hv

theorem zeros16_len : zeros16.length = 16 := by simp [zeros16]
theorem rotated (cs : List Value) (hl : cs.length = 16) (n : Nat) (hn : n ≤ 16) : splice (splice zeros16 0 (cs.drop n)) (16 - n) (cs.take n) = cs.drop n ++ cs.take n := by
  have h0 := zeros16_len
  have e1 : splice zeros16 0 (cs.drop n) = cs.drop n ++ zeros16.drop (16 - n) := by simp [splice, hl]
  rw [e1]
  unfold splice
  rw [List.take_append_of_le_length (by simp [hl]), List.take_of_length_le (by simp [hl])]
  have e2 : (cs.drop n ++ zeros16.drop (16 - n)).length = 16 := by rw [List.length_append, List.length_drop, List.length_drop, hl, h0]; omega
  have e3 : 16 - n + (cs.take n).length = 16 := by rw [List.length_take, hl]; omega
  have e4 : (cs.drop n ++ zeros16.drop (16 - n)).drop 16 = [] := List.drop_eq_nil_of_le (by omega)
  rw [e3, e4, List.append_nil]

theorem rot_all (cs : List Value) (h1 : ∀ v ∈ cs, v.oneCell' = true) (n : Nat) : (cs.drop n ++ cs.take n).toArray.all (·.oneCell') = true := by
  rw [Array.all_eq_true_iff_forall_mem]
  intro v hv
  simp at hv
  rcases hv with hv | hv
  · exact h1 v (List.mem_of_mem_drop hv)
  · exact h1 v (List.mem_of_mem_take hv)
theorem rot_len (cs : List Value) (hl : cs.length = 16) (n : Nat) (hn : n ≤ 16) : (cs.drop n ++ cs.take n).length = 16 := by simp [hl]; omega

theorem dpos (cs : List Value) (hl : cs.length = 16) (n : Nat) (h : 0 < (cs.drop n).length) : n < 16 := by rw [List.length_drop, hl] at h; omega
theorem tpos (cs : List Value) (hl : cs.length = 16) (n : Nat) (h : 0 < (cs.take n).length) : 16 - n < 16 := by rw [List.length_take, hl] at h; omega
theorem tlen (cs : List Value) (hl : cs.length = 16) (n : Nat) (hn : n ≤ 16) : (cs.take n).length = Nat.min n (16 - (16 - n)) := by
  show (cs.take n).length = min n (16 - (16 - n)); rw [List.length_take, hl]; omega
theorem tfit (cs : List Value) (hl : cs.length = 16) (n : Nat) (hn : n ≤ 16) : 16 - n + (cs.take n).length ≤ (splice zeros16 0 (cs.drop n)).length := by
  rw [length_splice _ _ _ (by rw [List.length_drop, hl, zeros16_len]; omega), List.length_take, hl, zeros16_len]; omega

set_option maxHeartbeats 400000 in
theorem rotate_any (cs : List Value) (hl : cs.length = 16) (h1 : ∀ v ∈ cs, v.oneCell' = true) (bits : Int) (n : Nat) (hn : n ≤ 16) (hb : bits.tdiv 8 = n) (w : World) :
    Calls Yba.prog 5 #[.agg cs.toArray, .int .i64 bits] w fun e w' => e = .returned (.agg (cs.drop n ++ cs.take n).toArray) ∧ Below w.heap.size w w' := by
  have hq : wrap64 (bits.tdiv 8) = n := by rw [hb]; unfold wrap64; omega
  obtain ⟨p1, hp1, hs1⟩ := slice_from w.heap.size n n hn rfl
  obtain ⟨p2, hp2, hs2⟩ := slice_from (w.heap.size + 1 + 1) (16 - n) (16 - n) (by omega) (by omega)
  have hs3 := slice_to w.heap.size n hn
  have HR : Hid (splice (splice zeros16 0 (cs.drop n)) (16 - n) (cs.take n) = cs.drop n ++ cs.take n) := rotated cs hl n hn
  have hw16 : IntKind.i64.wrap (16 - (n : Int)) = 16 - n := by rw [IntKind.wrap_i64]; omega
  go_enter Yba.func5, Yba.ntmps5
  go_wp2
  go_region_law (
    (refine step_copy_splice rfl (.tmp 9) (.tmp 11) 27 27 rfl 5 Yba.underlying27 (by kernel_rfl) _ _ _ _ _ _ rfl rfl (w.heap.size + 1 + 1) 0 zeros16 22 ?hg (cs.drop n) ?hn ?hpos ?hfit ?h1 (w.heap.size + 1 + 1) (((w.alloc (.cells cs.toArray 22)).alloc (.cells zeros16.toArray 22)).alloc (.cells zeros16.toArray 22)) ?hb ?hBg ?h
     case hg => exact heap3_2 w _ _ _
     case hn => simp [hl]
     case hpos => exact fun hpos => ⟨rfl, ⟨w.heap.size, n, none⟩, hp1.out (dpos cs hl n hpos), src_row (heap3_0 w _ _ _) n⟩
     case hfit => simp [hl, zeros16]
     case h1 => exact fun v hv => h1 v (List.mem_of_mem_drop hv)
     case hb => exact (Below.refl _ _).drew
     case hBg => exact Nat.le_refl _
     intro w2 hg2 hb2))
  have hx2 : Hid (w2.heap[w.heap.size]? = some (.cells cs.toArray 22 (0, 0))) := (hb2.block w.heap.size (by omega)).trans (heap3_0 w _ _ _)
  have hpos2 : Hid (0 < (cs.take n).length → p2 = some ⟨w.heap.size + 1 + 1, 16 - n, none⟩ ∧ ∃ ad, some (⟨w.heap.size, 0, none⟩ : Addr) = some ad ∧ ∀ j v, (cs.take n)[j]? = some v → w2.drew.cell? (ad.add j) = some v) :=
    fun hpos => ⟨hp2.out (tpos cs hl n hpos), ⟨w.heap.size, 0, none⟩, rfl, src_row_take (w := w2.drew) hx2.out n⟩
  go_wp2
  go_region_law (
    (refine step_copy_splice rfl (.tmp 15) (.tmp 17) 27 27 rfl 5 Yba.underlying27 (by kernel_rfl) _ _ _ _ _ _ rfl rfl (w.heap.size + 1 + 1) (16 - n) (splice zeros16 0 (cs.drop n)) 22 ?khg (cs.take n) ?khn ?khpos ?khfit ?kh1 (w.heap.size + 1 + 1) (((w.alloc (.cells cs.toArray 22)).alloc (.cells zeros16.toArray 22)).alloc (.cells zeros16.toArray 22)) ?khb ?khBg ?kh
     case khg => exact hg2.out
     case khn => exact tlen cs hl n hn
     case khpos => exact hpos2.out
     case khfit => exact tfit cs hl n hn
     case kh1 => exact fun v hv => h1 v (List.mem_of_mem_take hv)
     case khb => exact hb2.drew
     case khBg => exact Nat.le_refl _
     intro w3 hg3 hb3))
  have hg4 : w3.heap[w.heap.size + 1 + 1]? = some (.cells (cs.drop n ++ cs.take n).toArray 22 (0, 0)) := by rw [← HR.out]; exact hg3.out
  have hg5 : w3.heap[w.heap.size + 1]? = some (.cells zeros16.toArray 22 (0, 0)) := (hb3.block _ (by omega)).trans (heap3_1 w _ _ _)
  have hsz : (Yba.prog.info? 22).map (·.size) = some (cs.drop n ++ cs.take n).toArray.size := by rw [List.size_toArray, rot_len cs hl n hn]; kernel_rfl
  have HG4 : Hid (w3.heap[w.heap.size + 1 + 1]? = some (.cells (cs.drop n ++ cs.take n).toArray 22 (0, 0))) := hg4
  have HG5 : Hid (w3.heap[w.heap.size + 1]? = some (.cells zeros16.toArray 22 (0, 0))) := hg5
  have HSZ : Hid ((Yba.prog.info? 22).map (·.size) = some (cs.drop n ++ cs.take n).toArray.size) := hsz
  clear hg4 hg5 hsz
  have hold : zeros16.toArray.size = (cs.drop n ++ cs.take n).toArray.size := by rw [List.size_toArray, List.size_toArray, rot_len cs hl n hn, zeros16_len]
  have HOLD : Hid (zeros16.toArray.size = (cs.drop n ++ cs.take n).toArray.size) := hold
  clear hold
  go_wp2_with (first | refine wpList_load_row rfl 22 (.tmp 6) rfl (w.heap.size + 1 + 1) rfl 22 (cs.drop n ++ cs.take n).toArray (0, 0) _ HG4.out Yba.underlying22 rfl HSZ.out ?_ | refine wpList_store_row rfl 22 (.tmp 4) (.tmp 19) rfl (w.heap.size + 1) (cs.drop n ++ cs.take n).toArray rfl rfl 22 zeros16.toArray HG5.out HSZ.out HOLD.out (rot_all cs h1 n) ?_)
  refine bodyPost_ret (results_cell_row (P := Yba.prog) Yba.results5 _ _ (w.heap.size + 1) 22 (cs.drop n ++ cs.take n).toArray (0, 0) _ rfl (setRow_heap w3 _ _ _ 22 (0, 0) HG5.out) Yba.underlying22 rfl HSZ.out) rfl ⟨rfl, ?_⟩
  have hb0 : Below w.heap.size w (((w.alloc (.cells cs.toArray 22)).alloc (.cells zeros16.toArray 22)).alloc (.cells zeros16.toArray 22)) :=
    (((Below.refl _ _).alloc (Nat.le_refl _) _).alloc (by simp) _).alloc (by simp; omega) _
  exact below_setRow (hb0.trans (hb3.mono (by omega))) (by omega) _
end Go.Proofs.Ybulkbgqw

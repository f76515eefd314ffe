import Derived.Test.YbulkbgqwRot
import Derived.Deep.RegionWith
namespace Go.Proofs.Ybulkbgqw
open Go.RowKit

/-- The octets as the memory holds them. -/
def cells8 (zs : List Int) : List Value := zs.map (Value.int .u8)
theorem cells8_len (zs : List Int) : (cells8 zs).length = zs.length := by simp [cells8]
theorem cells8_one (zs : List Int) : ∀ v ∈ cells8 zs, v.oneCell' = true := by
  intro v hv
  simp only [cells8, List.mem_map] at hv
  obtain ⟨z, _, rfl⟩ := hv
  rfl

/-- THE PLAIN LAW. -/
theorem rot_get (cs : List Value) (hl : cs.length = 16) (n k : Nat) (hn : n ≤ 16) (hk : k < 16) : (cs.drop n ++ cs.take n)[k]? = cs[(k + n) % 16]? := by
  by_cases h : k < 16 - n
  · rw [List.getElem?_append_left (by simp [hl]; omega), List.getElem?_drop, show (k + n) % 16 = n + k by omega]
  · rw [List.getElem?_append_right (by simp [hl]; omega), List.getElem?_take, if_pos (by simp [hl]; omega)]
    congr 1
    simp [hl]; omega

theorem pick (cs : List Value) (zs : List Int) (h : cs = cells8 zs) (hl : zs.length = 16) (j : Nat) (hj : j < 16) : cs[j]? = some (.int .u8 (zs.getD j 0)) := by
  subst h
  simp [cells8, List.getD, hl, hj]

/-- How many octets a turn by b bits, -7 ≤ b ≤ 135, comes to. -/
theorem turns (b : Int) (h0 : -7 ≤ b) (h1 : b ≤ 135) : ∃ n : Nat, n ≤ 16 ∧ b.tdiv 8 = n := by
  by_cases h : 0 ≤ b
  · exact ⟨(b / 8).toNat, by omega, by rw [Int.tdiv_eq_ediv_of_nonneg h]; omega⟩
  · refine ⟨0, by omega, ?_⟩
    obtain ⟨c, rfl⟩ : ∃ c : Int, b = -c := ⟨-b, by omega⟩
    rw [Int.neg_tdiv, Int.tdiv_eq_ediv_of_nonneg (by omega)]
    omega

theorem alloc_setRow (w : World) (c : Array Value) (g : Nat) (hg : g < w.heap.size) (c0 : Array Value) : ((w.alloc (.cells c0 22)).setRow w.heap.size c).heap[w.heap.size]? = some (.cells c 22 (0, 0)) ∧ ((w.alloc (.cells c0 22)).setRow w.heap.size c).heap[g]? = w.heap[g]? := by
  refine ⟨setRow_heap _ _ _ _ 22 (0, 0) (heap_alloc_new w _), ?_⟩
  rw [setRow_other _ _ _ _ (by omega), Below.heap_alloc w _ g hg]

/-- A cell of a row. -/
theorem row_cell {w : World} {b : Nat} {cs : List Value} (h : w.heap[b]? = some (.cells cs.toArray 22 (0, 0))) (j : Nat) (v : Value) (hv : cs[j]? = some v) : w.cell? ⟨b, j, none⟩ = some v := by
  rw [cell_of_row w b j cs.toArray 22 (0, 0) h]; simpa using hv

set_option maxHeartbeats 400000 in
theorem model_any (zs : List Int) (hl : zs.length = 16) (sel : Int) (h0 : 0 ≤ sel) (h1 : sel ≤ 65535) (w : World) :
    Calls Yba.prog 3 #[.agg (cells8 zs).toArray, .int .u16 sel] w fun e w' => e = .returned (.bool true) ∧ Below w.heap.size w w' := by
  obtain ⟨n, hn, hb⟩ : ∃ n : Nat, n ≤ 16 ∧ (sel % 143 - 7).tdiv 8 = n := by
    exact turns (sel % 143 - 7) (by omega) (by omega)
  obtain ⟨cs, hcs⟩ : ∃ cs, cs = cells8 zs := ⟨_, rfl⟩
  rw [← hcs]
  have hcl : cs.length = 16 := by rw [hcs, cells8_len, hl]
  have hc1 : ∀ v ∈ cs, v.oneCell' = true := by rw [hcs]; exact cells8_one zs
  have HCS : Hid (cs = cells8 zs) := hcs
  clear hcs
  have hq : wrap64 ((sel % 143 - 7).tdiv 8) = n := by rw [hb]; unfold wrap64; omega
  have hx0 : Hid ((w.alloc (.cells cs.toArray 22)).heap[w.heap.size]? = some (.cells cs.toArray 22 (0, 0))) := heap_alloc_new w _
  have HSZ : Hid ((Yba.prog.info? 22).map (·.size) = some cs.toArray.size) := by show _ = _; rw [List.size_toArray, hcl]; kernel_rfl
  obtain ⟨ys, hys⟩ : ∃ ys, ys = cs.drop n ++ cs.take n := ⟨_, rfl⟩
  have HR : Hid (∀ W, Calls Yba.prog 5 #[.agg cs.toArray, .int .i64 (sel % 143 - 7)] W fun e w' => e = .returned (.agg ys.toArray) ∧ Below W.heap.size W w') := by
    intro W; rw [hys]; exact rotate_any cs hcl hc1 _ n hn hb W
  have HYL : Hid (ys.length = 16) := by show _ = _; rw [hys]; exact rot_len cs hcl n hn
  have HYG : Hid (∀ k, k < 16 → ys[k]? = cs[(k + n) % 16]?) := by intro k hk; rw [hys]; exact rot_get cs hcl n k hn hk
  have HYA : Hid (ys.toArray.all (·.oneCell') = true) := by show _ = _; rw [hys]; exact rot_all cs hc1 n
  have HYZ : Hid ((Yba.prog.info? 22).map (·.size) = some ys.toArray.size) := by show _ = _; rw [List.size_toArray, HYL.out]; kernel_rfl
  have HYO : Hid (zeros16.toArray.size = ys.toArray.size) := by show _ = _; rw [List.size_toArray, List.size_toArray, HYL.out, zeros16_len]
  have HL : Hid (cs.length = 16) := hcl
  clear hcl hc1 hys
  go_enter Yba.func3, Yba.ntmps3
  go_wp2_with (first | refine wpList_load_row rfl 22 (.tmp 2) rfl w.heap.size rfl 22 cs.toArray (0, 0) _ hx0.out Yba.underlying22 rfl HSZ.out ?_)
  go_wp2_with fail
  refine (HR.out _).mono ?_
  rintro e w1 ⟨rfl, hb1⟩
  have hsz1 : w.heap.size + 1 ≤ w1.heap.size := by have := hb1.size; simpa using this
  have hb1' : Below (w.heap.size + 1) (w.alloc (.cells cs.toArray 22)) w1 := by simpa using hb1
  have hxx : Hid (w1.heap[w.heap.size]? = some (.cells cs.toArray 22 (0, 0))) := (hb1'.block w.heap.size (by omega)).trans hx0.out
  have hbw : Below w.heap.size w w1 := ((Below.refl _ _).alloc (Nat.le_refl _) _).trans (hb1'.mono (by omega))
  clear hb1 hb1'
  go_wp2_with (first | refine wpList_store_row rfl 22 (.tmp 7) (.tmp 17) rfl w1.heap.size ys.toArray rfl rfl 22 zeros16.toArray (heap_alloc_new w1 _) HYZ.out HYO.out HYA.out ?_)
  go_wp2_with fail
  go_loopw [8] (fun i wr => ∃ k : Nat, k ≤ 16 ∧ i = .int .i64 k ∧ Hid (wr.heap[w.heap.size]? = some (.cells cs.toArray 22 (0, 0))) ∧ Hid (wr.heap[w1.heap.size]? = some (.cells ys.toArray 22 (0, 0))) ∧ Below w.heap.size w wr) (fun i _ => 16 - (intOf i).toNat)
  case atStart =>
    have hA := alloc_setRow w1 ys.toArray w.heap.size (by omega) zeros16.toArray
    exact ⟨0, by omega, rfl, hA.2.trans hxx.out, hA.1, below_setRow (hbw.alloc (by omega) _) (by omega) _⟩
  case round =>
    obtain ⟨k, hk, rfl, hgx, hgy, hbr⟩ := hrel
    by_cases hlt : k < 16
    · have hz := pick cs zs HCS.out hl ((k + n) % 16) (by omega)
      obtain ⟨z, hz⟩ : ∃ z, cs[(k + n) % 16]? = some (.int .u8 z) := ⟨_, hz⟩
      have c1 : wr.cell? ⟨w1.heap.size, k, none⟩ = some (.int .u8 z) := row_cell hgy.out k _ ((HYG.out k hlt).trans hz)
      have c2 : wr.cell? ⟨w.heap.size, (k + n) % 16, none⟩ = some (.int .u8 z) := row_cell hgx.out _ _ hz
      clear hz
      go_wp2
      go_quiet (fail)
      go_wp2
      go_roundw
      case rel => exact ⟨k + 1, by omega, by go_num, hgx.out, hgy.out, below_drewN hbr nq⟩
      case measure => simp [intOf]; omega
    · go_wp2
      go_ret
      exact ⟨rfl, hbr⟩
end Go.Proofs.Ybulkbgqw

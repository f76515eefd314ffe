import Derived.Test.YbulkbgqwModelWalk
import Derived.Laws.StructEq
import Derived.Deep.Cut
namespace Go.Proofs.Ybulkbgqw
open Go.RowKit

/-- '==' of a [16]byte with itself. -/
theorem equalIn_same (w : World) (d : Nat) (zs : List Int) (hl : zs.length = 16) : (Op.equalIn (d + 2) 22 (.agg (cells8 zs).toArray) (.agg (cells8 zs).toArray)).run Yba.prog w = .ok true w := by
  rw [Op.equalIn]
  simp only [Sem.run_bind, run_underlying Yba.underlying22, Result.andThen_ok, size5, Std.Legacy.Range.forIn_eq_forIn_range', Std.Legacy.Range.size, Nat.sub_zero, Nat.add_sub_cancel, Nat.div_one]
  have hr : ∀ i ∈ List.range' 0 16 1, i < 16 := fun i hi => by simpa using (List.mem_range'_1.1 hi).2
  generalize List.range' 0 16 1 = l at hr ⊢
  induction l with
  | nil => simp
  | cons i l ih =>
    have hi : i < 16 := hr i (by simp)
    have px : (part 5 (cells8 zs).toArray (i * 1)).run Yba.prog w = .ok (.int .u8 (zs.getD i 0)) w := by
      simp [part, isAgg, run_underlying Yba.underlying5, List.getD, cells8, List.getElem?_eq_getElem (show i < zs.length by omega)]
    have pe : (Op.equalIn (d + 1) 5 (.int .u8 (zs.getD i 0)) (.int .u8 (zs.getD i 0))).run Yba.prog w = .ok true w := by
      rw [run_equalIn_int w d 5 .u8 .u8 _ _ Yba.underlying5]; simp
    simp only [List.forIn_cons, Sem.run_bind, px, pe, Result.andThen_ok, Bool.not_true, Bool.false_eq_true, if_false, Sem.run_pure]
    exact ih fun j hj => hr j (by simp [hj])
/-- THE PLAIN LAW: by k and then by 16 - k octets. -/
theorem rot_back (cs : List Value) (hl : cs.length = 16) (k : Nat) : (cs.drop k ++ cs.take k).drop (16 - k) ++ (cs.drop k ++ cs.take k).take (16 - k) = cs := by
  have hd : (cs.drop k).length = 16 - k := by rw [List.length_drop, hl]
  rw [← hd, List.drop_left, List.take_left, List.take_append_drop]

/-- A whole [16]byte stored into the block that was made last; the world behind it a variable. -/
theorem wpList_store_last {ops : Array Oper} {rest : List Oper} {o : Oper} {a : Act} {w : World} {Q : Exit → Act → World → Prop} (hgd : o.guard = none) (x y : Operand) (ho : o.op = .store 22 x y)
    (cells : Array Value) (hx : a.eval x = .pointer (some ⟨w.heap.size, 0, none⟩)) (hy : a.eval y = .agg cells)
    (hi : (Yba.prog.info? 22).map (·.size) = some cells.size) (hold : zeros16.toArray.size = cells.size) (h1 : cells.all (·.oneCell') = true)
    (h : ∀ w2, Hid (w2.heap[w.heap.size]? = some (.cells cells 22 (0, 0))) → Below w.heap.size w w2 → w2.heap.size = w.heap.size + 1 → wpList Yba.prog ops Q rest (a.put o.dst undef) w2) :
    wpList Yba.prog ops Q (o :: rest) a (w.alloc (.cells zeros16.toArray 22)) := by
  refine wpList_store_row hgd 22 x y ho w.heap.size cells hx hy 22 zeros16.toArray (heap_alloc_new w _) hi hold h1 ?_
  exact h _ (setRow_heap _ _ _ _ 22 (0, 0) (heap_alloc_new w _)) (below_setRow ((Below.refl _ _).alloc (Nat.le_refl _) _) (Nat.le_refl _) _) (by simp [World.setRow])

/-- A whole array loaded by an operation whose guard says yes. -/
theorem wpList_load_row_on {ops : Array Oper} {rest : List Oper} {o : Oper} {a : Act} {w : World} {Q : Exit → Act → World → Prop} (hw : Region.wanted o (yielded ops a.tmps) = true) (x : Operand) (ho : o.op = .load 22 x)
    (g : Nat) (hx : a.eval x = .pointer (some ⟨g, 0, none⟩)) (cs : Array Value) (hg : w.heap[g]? = some (.cells cs 22 (0, 0))) (hi : (Yba.prog.info? 22).map (·.size) = some cs.size)
    (h : wpList Yba.prog ops Q rest (a.put o.dst (.agg cs)) w) : wpList Yba.prog ops Q (o :: rest) a w :=
  wpList_step fun _ hK => by rw [if_pos hw]; exact wp_load_row 22 x ho g hx 22 cs (0, 0) _ hg Yba.underlying22 rfl hi (hK _ _ h)

set_option maxHeartbeats 400000 in
theorem trip_any (zs : List Int) (hl : zs.length = 16) (sel : Int) (h0 : 0 ≤ sel) (h1 : sel ≤ 255) (w : World) :
    Calls Yba.prog 4 #[.agg (cells8 zs).toArray, .int .u8 sel] w fun e w' => e = .returned (.bool true) ∧ Below w.heap.size w w' := by
  obtain ⟨k, hk, hb⟩ : ∃ k : Nat, k ≤ 16 ∧ sel % 17 = k := ⟨(sel % 17).toNat, by omega, by omega⟩
  obtain ⟨cs, hcs⟩ : ∃ cs, cs = cells8 zs := ⟨_, rfl⟩
  have HEQ : Hid (∀ W, (Op.equalIn 10000 22 (.agg cs.toArray) (.agg cs.toArray)).run Yba.prog W = .ok true W) := by rw [hcs]; exact fun W => equalIn_same W 9998 zs hl
  rw [← hcs]
  have hcl : cs.length = 16 := by rw [hcs, cells8_len, hl]
  have hc1 : ∀ v ∈ cs, v.oneCell' = true := by rw [hcs]; exact cells8_one zs
  clear hcs
  have hx0 : Hid ((w.alloc (.cells cs.toArray 22)).heap[w.heap.size]? = some (.cells cs.toArray 22 (0, 0))) := heap_alloc_new w _
  have HSZ : Hid ((Yba.prog.info? 22).map (·.size) = some cs.toArray.size) := by show _ = _; rw [List.size_toArray, hcl]; kernel_rfl
  have HCA : Hid (cs.toArray.all (·.oneCell') = true) := by show _ = _; rw [Array.all_eq_true_iff_forall_mem]; intro v hv; exact hc1 v (by simpa using hv)
  have HCO : Hid (zeros16.toArray.size = cs.toArray.size) := by show _ = _; rw [List.size_toArray, List.size_toArray, hcl, zeros16_len]
  obtain ⟨ys, hys⟩ : ∃ ys, ys = cs.drop k ++ cs.take k := ⟨_, rfl⟩
  have hyl : ys.length = 16 := by rw [hys]; exact rot_len cs hcl k hk
  have hya := rot_all cs hc1 k
  rw [← hys] at hya
  have hy1 : ∀ v ∈ ys, v.oneCell' = true := fun v hv => (Array.all_eq_true_iff_forall_mem.1 hya) v (by simpa using hv)
  have HR : Hid (∀ W, Calls Yba.prog 5 #[.agg cs.toArray, .int .i64 (8 * k)] W fun e w' => e = .returned (.agg ys.toArray) ∧ Below W.heap.size W w') := by
    intro W; rw [hys]; exact rotate_any cs hcl hc1 _ k hk (by rw [Int.tdiv_eq_ediv_of_nonneg (by omega)]; omega) W
  have HR2 : Hid (∀ W, Calls Yba.prog 5 #[.agg ys.toArray, .int .i64 (8 * (16 - k))] W fun e w' => e = .returned (.agg cs.toArray) ∧ Below W.heap.size W w') := by
    intro W
    have := rotate_any ys hyl hy1 (8 * (16 - k)) (16 - k) (by omega) (by rw [Int.tdiv_eq_ediv_of_nonneg (by omega)]; omega) W
    rw [hys, rot_back cs hcl k, ← hys] at this
    exact this
  have HYA : Hid (ys.toArray.all (·.oneCell') = true) := hya
  have HYZ : Hid ((Yba.prog.info? 22).map (·.size) = some ys.toArray.size) := by show _ = _; rw [List.size_toArray, hyl]; kernel_rfl
  have HYO : Hid (zeros16.toArray.size = ys.toArray.size) := by show _ = _; rw [List.size_toArray, List.size_toArray, hyl, zeros16_len]
  clear hcl hc1 hys hyl hya hy1
  go_enter Yba.func4, Yba.ntmps4
  have hsA : (w.alloc (.cells cs.toArray 22)).heap.size = w.heap.size + 1 := by simp
  go_wp2_with (first
    | (refine wpList_load_row rfl 22 (.tmp 2) rfl w.heap.size rfl 22 cs.toArray (0, 0) _ hx0.out Yba.underlying22 rfl HSZ.out ?_)
    | (refine wpList_store_last (w := w.alloc (.cells cs.toArray 22)) rfl (.tmp 6) (.tmp 12) rfl cs.toArray (by rw [hsA]; rfl) rfl HSZ.out HCO.out HCA.out ?_; intro w2 hg2 hb2 hs2; rw [hsA] at hg2 hb2 hs2; have hx2 : Hid (w2.heap[w.heap.size]? = some (.cells cs.toArray 22 (0, 0))) := (hb2.block w.heap.size (by omega)).trans hx0.out; clear hx0)
    | (refine wpList_load_row rfl 22 (.tmp 2) rfl w.heap.size rfl 22 cs.toArray (0, 0) _ hx2.out Yba.underlying22 rfl HSZ.out ?_))
  refine (HR.out _).mono ?_
  rintro e w3 ⟨rfl, hb3⟩
  have hs3 := hb3.size
  rw [hs2] at hb3 hs3
  have hx3 : Hid (w3.heap[w.heap.size]? = some (.cells cs.toArray 22 (0, 0))) := (hb3.block w.heap.size (by omega)).trans hx2.out
  have ho3 : Hid (w3.heap[w.heap.size + 1]? = some (.cells cs.toArray 22 (0, 0))) := (hb3.block (w.heap.size + 1) (by omega)).trans hg2.out
  have hbw3 : Hid (Below w.heap.size w w3) := (((Below.refl _ _).alloc (Nat.le_refl _) _).trans (hb2.mono (by omega))).trans (hb3.mono (by omega))
  clear hx2 hg2 hb2 hb3 hs2 hsA
  go_wp2_with (first
    | (refine wpList_store_last (w := w3) rfl (.tmp 7) (.tmp 16) rfl ys.toArray rfl rfl HYZ.out HYO.out HYA.out ?_; intro w4 hg4 hb4 hs4)
    | (refine wpList_load_row rfl 22 (.tmp 7) rfl w3.heap.size rfl 22 ys.toArray (0, 0) _ hg4.out Yba.underlying22 rfl HYZ.out ?_))
  refine (HR2.out _).mono ?_
  rintro e w5 ⟨rfl, hb5⟩
  have hs5 := hb5.size
  rw [hs4] at hb5 hs5
  have hx5 : Hid (w5.heap[w.heap.size]? = some (.cells cs.toArray 22 (0, 0))) := ((hb5.block w.heap.size (by omega)).trans (hb4.block w.heap.size (by omega))).trans hx3.out
  have ho5 : Hid (w5.heap[w.heap.size + 1]? = some (.cells cs.toArray 22 (0, 0))) := ((hb5.block (w.heap.size + 1) (by omega)).trans (hb4.block (w.heap.size + 1) (by omega))).trans ho3.out
  have hbw5 : Hid (Below w.heap.size w w5) := (hbw3.out.trans (hb4.mono (by omega))).trans (hb5.mono (by omega))
  clear hx3 ho3 hg4 hb4 hb5 hs4 hbw3
  go_upto_region 5 with (refine wpList_store_last (w := w5) rfl (.tmp 8) (.tmp 21) rfl cs.toArray rfl rfl HSZ.out HCO.out HCA.out ?_; intro w6 hg6 hb6 hs6)
  have hx6 : Hid (w6.heap[w.heap.size]? = some (.cells cs.toArray 22 (0, 0))) := (hb6.block w.heap.size (by omega)).trans hx5.out
  have ho6 : Hid (w6.heap[w.heap.size + 1]? = some (.cells cs.toArray 22 (0, 0))) := (hb6.block (w.heap.size + 1) (by omega)).trans ho5.out
  have hbw6 : Hid (Below w.heap.size w w6) := hbw5.out.trans (hb6.mono (by omega))
  have heq6 := HEQ.out w6
  clear hb6 hs6
  go_wp2_with (first
    | (refine wpList_load_row rfl 22 (.tmp 8) rfl w5.heap.size rfl 22 cs.toArray (0, 0) _ hg6.out Yba.underlying22 rfl HSZ.out ?_)
    | (refine wpList_load_row rfl 22 (.tmp 6) rfl (w.heap.size + 1) rfl 22 cs.toArray (0, 0) _ ho6.out Yba.underlying22 rfl HSZ.out ?_)
    | (refine wpList_load_row_on rfl (.tmp 2) rfl w.heap.size rfl cs.toArray hx6.out HSZ.out ?_)
    | (refine wpList_load_row_on rfl (.tmp 6) rfl (w.heap.size + 1) rfl cs.toArray ho6.out HSZ.out ?_))
  go_ret
  exact ⟨rfl, hbw6.out⟩
end Go.Proofs.Ybulkbgqw

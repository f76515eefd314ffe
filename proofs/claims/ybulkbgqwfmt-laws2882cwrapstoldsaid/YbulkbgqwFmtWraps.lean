import Derived.Test.YbulkbgqwFmtAsHit
import Derived.RowKit3
import Derived.BigQuiet
namespace Go.Proofs.YbulkbgqwFmt
open Go.RowKit Go.Extern.Stop Go.Stop Go.Extern

theorem hideW {p : Prop} (h : p) : Hid p := h

/-- readError of a *zzs2882cerr, the world behind it a letter. -/
theorem read_letter (F : Interp) (a0 a1 : Addr) (b : Nat) (s : ByteArray) (w : World) (hF : F.answers w.tape) (hg0 : w.cell? ⟨0, 0, none⟩ = some (.iface 68 (.pointer (some a0)))) (hg1 : w.cell? ⟨1, 0, none⟩ = some (.iface 68 (.pointer (some a1)))) (h0 : w.cell? ⟨b, 0, none⟩ = some (.string s)) :
    Calls Ybaf.prog 6 #[.iface 26 (.pointer (some ⟨b, 0, none⟩))] w fun e w' => e = .returned (.iface 51 (.pointer (some ⟨w.heap.size + 1, 0, none⟩))) ∧ w'.cell? ⟨w.heap.size + 1, 1, none⟩ = some (.iface 26 (.pointer (some ⟨b, 0, none⟩))) ∧ Below w.heap.size w w' := by
  refine (read_zz F a0 a1 b s w hF hg0 hg1 h0).mono ?_
  rintro e w' ⟨he, x, rfl⟩
  refine ⟨he, by simp, ?_⟩
  exact (((Below.refl _ _).alloc (Nat.le_refl _) _).alloc (by simp) _).drew

/-- errors.As, the world behind it a letter. -/
theorem as_letter (pb : Nat) (e t : Addr) (old : Value) (w : World) (hg : w.cell? ⟨2, 0, none⟩ = some (.iface 53 (.agg #[.pointer (some ⟨3, 23, none⟩)]))) (h1 : w.cell? ⟨pb, 1, none⟩ = some (.iface 26 (.pointer (some e)))) (ht0 : w.cell? t = some old) (hf0 : w.frozen? t = false) :
    Calls Ybaf.prog 8 #[.iface 51 (.pointer (some ⟨pb, 0, none⟩)), .iface 31 (.pointer (some t))] w fun ev w' => ev = .returned (.bool true) ∧ w'.cell? t = some (.pointer (some e)) ∧ Below t.block w w' := by
  refine (as_zz pb e t old w hg h1 ht0 hf0).mono ?_
  rintro ev w' ⟨he, rfl⟩
  have htl : t.block < w.heap.size := World.block_lt_of_cell? _ _ ht0
  unfold asWorld
  refine ⟨he, ?_, ?_⟩
  · refine World.cell?_setCell_same' _ _ _ (Option.isSome_iff_exists.2 ⟨old, ?_⟩)
    rw [World.cell?_alloc_lt _ _ t (by simp; omega), World.cell?_alloc_lt _ _ t (by simp; omega), World.cell?_alloc_lt _ _ t (by simp; omega), World.cell?_alloc_lt _ _ t htl]; exact ht0
  · exact (((((Below.refl _ _).alloc (by omega) _).alloc (by simp; omega) _).alloc (by simp; omega) _).alloc (by simp; omega) _).setCell (Nat.le_refl _) _

theorem run_neq_ptr_same (p : Addr) (w : World) : (binOp .neq 26 (.pointer (some p)) (.pointer (some p))).run Ybaf.prog w = .ok (.bool false) w := by
  have h28 : (sizeOf 28).run Ybaf.prog w = .ok 2 w := by kernel_rfl
  have h : ∀ d : Nat, (Op.equalIn (d + 1) 26 (.pointer (some p)) (.pointer (some p))).run Ybaf.prog w = .ok true w := fun d => by
    simp [Op.equalIn, run_underlying Ybaf.underlying26, h28, run_sameAddr_same]
  simp only [binOp]
  simp [Op.equal, Op.maxDepth, h 9999]

set_option maxRecDepth 100000 in
set_option maxHeartbeats 1600000 in
theorem wraps_any (F : Interp) (s : ByteArray) (u : Bool) (a0 a1 : Addr) (w : World) (hF : F.answers w.tape) (hg0 : w.cell? ⟨0, 0, none⟩ = some (.iface 68 (.pointer (some a0)))) (hg1 : w.cell? ⟨1, 0, none⟩ = some (.iface 68 (.pointer (some a1)))) (hg2 : w.cell? ⟨2, 0, none⟩ = some (.iface 53 (.agg #[.pointer (some ⟨3, 23, none⟩)]))) :
    Calls Ybaf.prog 4 #[.string s, .bool u] w fun e w' => e = .returned (.bool true) ∧ Below w.heap.size w w' := by
  have t26 := fun v v' W => run_eql_iface_types (P := Ybaf.prog) 51 26 v v' Ybaf.underlying23 (by decide) W
  have t68 := fun v v' W => run_eql_iface_types (P := Ybaf.prog) 51 68 v v' Ybaf.underlying23 (by decide) W
  have hps := run_neq_ptr_same
  have hb1 : Below w.heap.size w (w.alloc (.cells #[.string s, .bool u] 28)) := (Below.refl _ _).alloc (Nat.le_refl _) _
  have HR := hideW (read_letter F a0 a1 w.heap.size s (w.alloc (.cells #[.string s, .bool u] 28)) hF (cell_later hb1 hg0) (cell_later hb1 hg1) (by simp))
  go_enter Ybaf.func4, Ybaf.ntmps4
  go_wp2_with (go_at_call 6; refine HR.out.mono ?_; rintro e w1 ⟨rfl, hc, hb⟩
               have hbw := hb1.trans (hb.mono (by simp))
               have c0 := cell_later hbw hg0
               have c1 := cell_later hbw hg1
               have c2 := cell_later hbw hg2
               clear hg0 hg1 hg2)
  have hc' : w1.cell? ⟨w.heap.size + 1 + 1, 1, none⟩ = some (.iface 26 (.pointer (some ⟨w.heap.size, 0, none⟩))) := by simpa using hc
  have z0 : w1.cell? ⟨w.heap.size, 0, none⟩ = some (.string s) := by rw [hb.cell (by simp)]; simp
  have z1 : w1.cell? ⟨w.heap.size, 1, none⟩ = some (.bool u) := by rw [hb.cell (by simp)]; simp
  have hpb : w.heap.size + 1 + 1 < w1.heap.size := World.block_lt_of_cell? _ _ hc'
  clear hc hb hb1 HR hF
  have ht0 : (w1.alloc (.cells #[.pointer none] 26)).cell? ⟨w1.heap.size, 0, none⟩ = some (.pointer none) := by simp
  have hbn : Below w1.heap.size w1 (w1.alloc (.cells #[.pointer none] 26)) := (Below.refl _ _).alloc (Nat.le_refl _) _
  have HA := hideW (as_letter (w.heap.size + 1 + 1) ⟨w.heap.size, 0, none⟩ ⟨w1.heap.size, 0, none⟩ (.pointer none) (w1.alloc (.cells #[.pointer none] 26)) (cell_later hbn c2) (cell_later hbn hc') ht0 (by simp))
  have HBW := hideW hbw
  clear hbw ht0
  refine (is_zz (w.heap.size + 1 + 1) 0 ⟨w.heap.size, 0, none⟩ w1 hc').mono ?_
  rintro e w2 ⟨rfl, rfl⟩
  go_wp2_with (go_at_call 8; refine HA.out.mono ?_; rintro e w3 ⟨rfl, ht, hb⟩
               have hb3 : Below w2.heap.size w2 w3 := hbn.trans (hb.mono (Nat.le_refl _))
               have y0 := cell_later hb3 c0
               have yc := cell_later hb3 hc'
               have yz0 := cell_later hb3 z0
               have yz1 := cell_later hb3 z1
               have HB3 := hideW (HBW.out.trans (hb3.mono HBW.out.size))
               clear hb3 hb hbn HA c0 c1 c2 hc' z0 z1 hpb)
  cases u
  · refine (is_end_no (w.heap.size + 1 + 1) 0 w.heap.size a0 w3 yc yz1).mono ?_
    rintro e w4 ⟨rfl, rfl⟩
    go_wp2
    go_ret
    exact ⟨rfl, HB3.out⟩
  · refine (is_end_yes (w.heap.size + 1 + 1) 0 w.heap.size a0 w3 yc yz1 y0).mono ?_
    rintro e w4 ⟨rfl, rfl⟩
    go_wp2
    go_ret
    exact ⟨rfl, HB3.out⟩
end Go.Proofs.YbulkbgqwFmt

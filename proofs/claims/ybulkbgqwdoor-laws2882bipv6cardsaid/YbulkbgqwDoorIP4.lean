import Derived.Test.YbulkbgqwDoorPut
import Derived.Deep.CutRange
namespace Go.Proofs.YbulkbgqwDoor
open Go.RowKit

/-- What LawS2882BIPv4 holds in its two blocks, and that nothing older has turned. -/
def held4 (w : World) (b0 b1 b2 b3 code vendor : Int) (m : Bool) (w' : World) : Prop :=
  w'.cell? ⟨w.heap.size, 0, none⟩ = some (.int .u8 b0) ∧ w'.cell? ⟨w.heap.size, 1, none⟩ = some (.int .u8 b1) ∧ w'.cell? ⟨w.heap.size, 2, none⟩ = some (.int .u8 b2) ∧ w'.cell? ⟨w.heap.size, 3, none⟩ = some (.int .u8 b3) ∧
  w'.cell? ⟨w.heap.size + 1, 0, none⟩ = some (.int .u32 code) ∧ w'.cell? ⟨w.heap.size + 1, 1, none⟩ = some (.int .u32 vendor) ∧ w'.cell? ⟨w.heap.size + 1, 2, none⟩ = some (.bool m) ∧
  Below w.heap.size w w'
theorem held4_below {w : World} {b0 b1 b2 b3 code vendor : Int} {m : Bool} {B : Nat} {W W' : World} (hb : Below B W W') (hB : w.heap.size + 2 ≤ B) (h : held4 w b0 b1 b2 b3 code vendor m W) : held4 w b0 b1 b2 b3 code vendor m W' := by
  obtain ⟨h1, h2, h3, h4, h5, h6, h7, h8⟩ := h
  exact ⟨(hb.cell (by show w.heap.size < B; omega)).trans h1, (hb.cell (by show w.heap.size < B; omega)).trans h2, (hb.cell (by show w.heap.size < B; omega)).trans h3, (hb.cell (by show w.heap.size < B; omega)).trans h4, (hb.cell (by show w.heap.size + 1 < B; omega)).trans h5, (hb.cell (by show w.heap.size + 1 < B; omega)).trans h6, (hb.cell (by show w.heap.size + 1 < B; omega)).trans h7, h8.trans (hb.mono (by omega))⟩
theorem held4_size {w : World} {b0 b1 b2 b3 code vendor : Int} {m : Bool} {W : World} (h : held4 w b0 b1 b2 b3 code vendor m W) : w.heap.size + 2 ≤ W.heap.size :=
  World.block_lt_of_cell? _ _ h.2.2.2.2.1
theorem held4_later {w : World} {b0 b1 b2 b3 code vendor : Int} {m : Bool} {W W' : World} (hb : Below W.heap.size W W') (h : held4 w b0 b1 b2 b3 code vendor m W) : held4 w b0 b1 b2 b3 code vendor m W' :=
  held4_below hb (held4_size h) h
theorem held4_set {w : World} {b0 b1 b2 b3 code vendor : Int} {m : Bool} {W : World} (h : held4 w b0 b1 b2 b3 code vendor m W) (g : Nat) (hg : w.heap.size + 2 ≤ g) (u0 u1 u2 u3 : Value) :
    held4 w b0 b1 b2 b3 code vendor m ((((W.setCell ⟨g, 0, none⟩ u0).setCell ⟨g, 1, none⟩ u1).setCell ⟨g, 2, none⟩ u2).setCell ⟨g, 3, none⟩ u3) :=
  held4_below (B := w.heap.size + 2) (((((Below.refl _ _).setCell (by exact hg) _).setCell (by exact hg) _).setCell (by exact hg) _).setCell (by exact hg) _) (Nat.le_refl _) h

theorem held4_b (b0 b1 b2 b3 code vendor : Int) (m : Bool) {w W : World} (h : held4 w b0 b1 b2 b3 code vendor m W) : Below w.heap.size w W := h.2.2.2.2.2.2.2
theorem bcell {W w1 : World} (hb : Below W.heap.size W w1) : (∀ b o, b < W.heap.size → w1.cell? ⟨b, o, none⟩ = W.cell? ⟨b, o, none⟩) ∧ (∀ b o, b < W.heap.size → w1.frozen? ⟨b, o, none⟩ = W.frozen? ⟨b, o, none⟩) :=
  ⟨fun b o h => hb.cell (p := ⟨b, o, none⟩) h, fun b o h => hb.frozen (p := ⟨b, o, none⟩) h⟩

/-- What the law holds behind 'a := d.Address(..)'. -/
def made4 (w : World) (b0 b1 b2 b3 code vendor fl : Int) (m : Bool) (s10 : Value) (wx : World) : Prop :=
  ∃ b10 g1 c1 : Nat, s10 = .pointer (some ⟨b10, 0, none⟩) ∧ held4 w b0 b1 b2 b3 code vendor m wx ∧ wx.heap[b10]? = some (.cells #[.int .u32 code, .int .u8 fl, .int .u32 vendor, .slice (some ⟨g1, 0, none⟩) 6 c1] 29 (0, 0)) ∧
    g1 < wx.heap.size ∧ ∀ j u, [Value.int .u8 0, .int .u8 1, .int .u8 b0, .int .u8 b1, .int .u8 b2, .int .u8 b3][j]? = some u → wx.cell? ⟨g1, j, none⟩ = some u

theorem heap3_2d (w : World) (A B C : Obj) : ((((w.alloc A).alloc B).alloc C).drew).heap[w.heap.size + 1 + 1]? = some C := by
  show (((w.heap.push A).push B).push C)[w.heap.size + 1 + 1]? = some C
  simp only [Array.getElem?_push, Array.size_push]
  rw [if_pos trivial]
theorem set_row {w : World} {g : Nat} {cur : Array Value} {t : TypeId} (h : w.heap[g]? = some (.cells cur t (0, 0))) (i : Nat) (v : Value) : (w.setCell ⟨g, i, none⟩ v).heap[g]? = some (.cells (cur.setIfInBounds i v) t (0, 0)) := by
  rw [setCell_eq_setRow w g i cur t (0, 0) v h]
  exact setRow_heap w g cur _ t _ h
theorem set_cell {w : World} {g g1 : Nat} (hne : g1 ≠ g) (i j : Nat) (v : Value) : (w.setCell ⟨g, i, none⟩ v).cell? ⟨g1, j, none⟩ = w.cell? ⟨g1, j, none⟩ :=
  World.cell?_of_block (Below.heap_setCell w ⟨g, i, none⟩ v g1 hne)

theorem made4_set {w w2 : World} {b0 b1 b2 b3 code vendor fl : Int} {m : Bool} (hh : held4 w b0 b1 b2 b3 code vendor m w2) (g g1 c1 : Nat) (hg : w.heap.size + 2 ≤ g) (hne : g1 ≠ g) {z0 z1 z2 z3 : Value} (hr : w2.heap[g]? = some (.cells #[z0, z1, z2, z3] 29 (0, 0))) (hlt : g1 < w2.heap.size)
    (hc : ∀ j u, [Value.int .u8 0, .int .u8 1, .int .u8 b0, .int .u8 b1, .int .u8 b2, .int .u8 b3][j]? = some u → w2.cell? ⟨g1, j, none⟩ = some u) :
    made4 w b0 b1 b2 b3 code vendor fl m (.pointer (some ⟨g, 0, none⟩)) ((((w2.setCell ⟨g, 0, none⟩ (.int .u32 code)).setCell ⟨g, 1, none⟩ (.int .u8 fl)).setCell ⟨g, 2, none⟩ (.int .u32 vendor)).setCell ⟨g, 3, none⟩ (.slice (some ⟨g1, 0, none⟩) 6 c1)) := by
  refine ⟨g, g1, c1, rfl, held4_set hh g hg _ _ _ _, set_row (set_row (set_row (set_row hr 0 _) 1 _) 2 _) 3 _, by simpa [World.setCell] using hlt, fun j u hj => ?_⟩
  rw [set_cell hne, set_cell hne, set_cell hne, set_cell hne]
  exact hc j u hj

theorem made4_new {w w2 : World} {b0 b1 b2 b3 code vendor fl : Int} {m : Bool} (hh : held4 w b0 b1 b2 b3 code vendor m w2) (g1 c1 : Nat) (hlt : g1 < w2.heap.size)
    (hc : ∀ j u, [Value.int .u8 0, .int .u8 1, .int .u8 b0, .int .u8 b1, .int .u8 b2, .int .u8 b3][j]? = some u → w2.cell? ⟨g1, j, none⟩ = some u) :
    made4 w b0 b1 b2 b3 code vendor fl m (.pointer (some ⟨w2.heap.size, 0, none⟩)) (w2.alloc (.cells #[.int .u32 code, .int .u8 fl, .int .u32 vendor, .slice (some ⟨g1, 0, none⟩) 6 c1] 29)) :=
  ⟨w2.heap.size, g1, c1, rfl, held4_later (below1 _ _) hh, heap_alloc_new w2 _, by simp; omega, fun j u hj => (World.cell?_alloc_lt _ _ ⟨g1, j, none⟩ hlt).trans (hc j u hj)⟩

set_option maxHeartbeats 1600000 in
theorem ip4_any (code vendor : Int) (m : Bool) (b0 b1 b2 b3 : Int) (h0 : 0 ≤ b0 ∧ b0 ≤ 255) (h1 : 0 ≤ b1 ∧ b1 ≤ 255) (h2 : 0 ≤ b2 ∧ b2 ≤ 255) (h3 : 0 ≤ b3 ∧ b3 ≤ 255) (p4 : Addr) (w : World) (hk : Kind p4 (some p4) false true w) :
    Calls Ybad.prog 3 #[.int .u32 code, .int .u32 vendor, .bool m, .agg #[.int .u8 b0, .int .u8 b1, .int .u8 b2, .int .u8 b3]] w fun e w' => e = .returned (.bool true) ∧ Below w.heap.size w w' := by
  obtain ⟨lo, hlo⟩ : ∃ lo, lo = 281470681743360 + b0 * 16777216 + b1 * 65536 + b2 * 256 + b3 := ⟨_, rfl⟩
  have HF4 : Hid (∀ V, Below w.heap.size w V → Calls Ybad.prog 7 #[.agg #[.int .u8 b0, .int .u8 b1, .int .u8 b2, .int .u8 b3]] V fun e w' => e = .returned (.agg #[.int .u64 0, .int .u64 lo, .pointer (some p4)]) ∧ Below V.heap.size V w') := by
    intro V hV; rw [hlo]; exact from4_any b0 b1 b2 b3 h0 h1 h2 h3 p4 V (hk.later hV).c4
  have HAD : Hid (∀ V, Below w.heap.size w V → Calls Ybad.prog 6 #[.agg #[.int .u32 code, .int .u32 vendor, .bool m], .agg #[.int .u64 0, .int .u64 lo, .pointer (some p4)]] V fun e w' => ∃ s, e = .returned (.agg #[.int .u32 code, .int .u8 (flg vendor m), .int .u32 vendor, s]) ∧ w'.ownsRow V.heap.size 5 1 s 6 (.int .u8 0 :: .int .u8 1 :: four lo) ∧ Below V.heap.size V w') := by
    intro V hV; exact address_four code vendor m 0 lo (by omega) p4 V (hk.later hV)
  have HFOUR : Hid (four lo = [.int .u8 b0, .int .u8 b1, .int .u8 b2, .int .u8 b3]) := by
    have e0 : lo % 4294967296 = b0 * 16777216 + b1 * 65536 + b2 * 256 + b3 := by omega
    show four lo = _
    unfold four
    rw [e0]
    congr 1
    · congr 1; omega
    · congr 1
      · congr 1; omega
      · congr 1
        · congr 1; omega
        · congr 2; omega
  rw [HFOUR.out] at HAD
  clear hk hlo h0 h1 h2 h3
  obtain ⟨fl, hfl⟩ : ∃ fl, fl = flg vendor m := ⟨_, rfl⟩
  rw [← hfl] at HAD
  have HFL := hide hfl
  clear hfl
  go_enter Ybad.func3, Ybad.ntmps3
  go_upto_region 2 with fail
  have hD0 : Hid (held4 w b0 b1 b2 b3 code vendor m ((w.alloc (.cells #[.int .u8 b0, .int .u8 b1, .int .u8 b2, .int .u8 b3] 23)).alloc (.cells #[.int .u32 code, .int .u32 vendor, .bool m] 25))) := by
    refine ⟨?_, ?_, ?_, ?_, ?_, ?_, ?_, below2 w _ _⟩ <;> simp [go_sem]
  have hD := hide (held4_later ((Below.refl _ _).drew) hD0.out)
  go_cut [10] from 16 to 19 (fun s10 wx => Hid (made4 w b0 b1 b2 b3 code vendor fl m s10 wx))
  case first =>
    go_region_held3 (fun w' => w'.cell? ⟨w.heap.size, 0, none⟩ = some (.int .u8 b0) ∧ w'.cell? ⟨w.heap.size, 1, none⟩ = some (.int .u8 b1) ∧ w'.cell? ⟨w.heap.size, 2, none⟩ = some (.int .u8 b2) ∧ w'.cell? ⟨w.heap.size, 3, none⟩ = some (.int .u8 b3) ∧ w'.cell? ⟨w.heap.size + 1, 0, none⟩ = some (.int .u32 code) ∧ w'.cell? ⟨w.heap.size + 1, 1, none⟩ = some (.int .u32 vendor) ∧ w'.cell? ⟨w.heap.size + 1, 2, none⟩ = some (.bool m) ∧ Below w.heap.size w w')
      (first
        | exact hh2.out
        | exact held4_later (below1 _ _) hh2.out
        | exact held4_set hh2.out _ (by omega) _ _ _ _
        | exact hh1.out
        | exact held4_later (below1 _ _) hh1.out
        | exact hD.out
        | exact held4_later (below1 _ _).drew hD0.out)
      (first
        | (go_at_call 7; refine (HF4.out _ (held4_b b0 b1 b2 b3 code vendor m (by assumption))).mono ?_; rintro e w1 ⟨rfl, hb1'⟩
           have hb1 := hide hb1'
           obtain ⟨k1, kf1⟩ := bcell hb1'
           have hz1 := hb1'.size
           simp only [World.size_alloc, World.size_drew] at hz1
           have hq1 := Nat.lt_of_succ_le hz1
           have hh1 : Hid (held4 w b0 b1 b2 b3 code vendor m w1) := held4_later hb1' (by assumption)
           have hs1 := held4_size hh1.out
           clear hb1')
        | (go_at_call 6; refine (HAD.out _ (held4_b b0 b1 b2 b3 code vendor m (by assumption))).mono ?_; rintro e w2 ⟨s, rfl, ho, hb2'⟩
           have hb2 := hide hb2'
           obtain ⟨g1, c1, rfl, hg1, hc1⟩ := ownsRow_pos ho (by decide)
           have HC1 := hide hc1
           have hge := (ho.lt g1 rfl).1
           try simp only [World.size_alloc] at hge
           obtain ⟨k2, kf2⟩ := bcell hb2'
           have hz2 := hb2'.size
           try simp only [World.size_alloc] at hz2
           have hh2 : Hid (held4 w b0 b1 b2 b3 code vendor m w2) := held4_later hb2' (by assumption)
           clear hb2' ho hc1))
    · go_wp2
      go_meet
      case rel => exact made4_new hh2.out g1 c1 hg1 HC1.out
    · go_wp2
      go_meet
      case rel => exact made4_set hh2.out _ g1 c1 hs1 (by omega) ((hb2.out.block w1.heap.size (by simp)).trans (heap_alloc_new w1 _)) hg1 HC1.out
    · go_wp2
      go_meet
      case rel => exact made4_set hh2.out _ g1 c1 (by omega) (by omega) ((hb2.out.block (w.heap.size + 1 + 1) hq1).trans ((hb1.out.block (w.heap.size + 1 + 1) (by simp)).trans (heap3_2d w _ _ _))) hg1 HC1.out
  case rest =>
    obtain ⟨b10, g1, c1, rfl, hh, hr, hg1, hc1⟩ := hcut.out
    have HR := hide hr
    have HH := hide hh
    have HC := hide hc1
    obtain ⟨q0, q1, q2, q3, q4, q5, q6, q7⟩ := hh
    have HB := hide q7
    have hs := held4_size HH.out
    have hb10 : b10 < wc.heap.size := by
      rcases Nat.lt_or_ge b10 wc.heap.size with h | h
      · exact h
      · rw [Array.getElem?_eq_none h] at hr; cases hr
    have hlt0 : w.heap.size < wc.heap.size := by omega
    have hlt1 : w.heap.size + 1 < wc.heap.size := by omega
    clear hcut hr hc1 q7
    go_wp2_with (first
      | (refine wpList_load_row rfl 29 (.tmp 10) rfl b10 rfl 29 _ (0, 0) _ ((Below.heap_alloc wc _ b10 hb10).trans HR.out) Ybad.underlying29 rfl (by kernel_rfl) ?_))
    have hc := check_any code vendor m g1 wc.heap.size c1 6 6 [.int .u8 0, .int .u8 1, .int .u8 b0, .int .u8 b1, .int .u8 b2, .int .u8 b3] (fun j hj => by match j, hj with | 0, _ => exact ⟨_, rfl⟩ | 1, _ => exact ⟨_, rfl⟩ | 2, _ => exact ⟨_, rfl⟩ | 3, _ => exact ⟨_, rfl⟩ | 4, _ => exact ⟨_, rfl⟩ | 5, _ => exact ⟨_, rfl⟩) (by decide) (wc.alloc (.cells #[.int .u8 0, .int .u8 1, .int .u8 b0, .int .u8 b1, .int .u8 b2, .int .u8 b3] 5))
      (fun j u hj => (World.cell?_alloc_lt _ _ ⟨g1, j, none⟩ hg1).trans (HC.out j u hj)) (fun j u hj => want_cells rfl j u hj) (by simp; omega) (by simp)
    rw [← HFL.out] at hc
    refine hc.mono ?_
    rintro e w3 ⟨rfl, hb3⟩
    have HB3 : Hid (Below w.heap.size w w3) := (HB.out.alloc (by omega) _).trans (hb3.mono (by simp; omega))
    clear hc hb3
    go_wp2
    go_ret
    exact ⟨rfl, HB3.out⟩
end Go.Proofs.YbulkbgqwDoor

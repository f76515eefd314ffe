import Derived.Test.YbulkbgqwDoorAddr6
import Derived.Test.YbulkbgqwDoorCheck
import Derived.Deep.CutRange
namespace Go.Proofs.YbulkbgqwDoor
open Go.RowKit

/-- What LawS2882BIPv6 holds in its two blocks, and that nothing older has turned. -/
def Arr (w : World) (code vendor : Int) (m : Bool) (bs : List Int) (wr : World) : Prop :=
  bs.length = 16 ∧ (∀ z ∈ bs, 0 ≤ z ∧ z ≤ 255) ∧ wr.heap[w.heap.size + 1]? = some (.cells #[.int .u32 code, .int .u32 vendor, .bool m] 25 (0, 0)) ∧
  wr.heap[w.heap.size + 1 + 1]? = some (.cells (cells8 bs).toArray 42 (0, 0)) ∧ Below w.heap.size w wr

section
variable {w : World} {code vendor : Int} {m : Bool} {bs : List Int} {wr : World}
theorem Arr.below {B : Nat} {W W' : World} (hb : Below B W W') (hB : w.heap.size + 3 ≤ B) (h : Arr w code vendor m bs W) : Arr w code vendor m bs W' := by
  obtain ⟨h1, h2, h3, h4, h5⟩ := h
  exact ⟨h1, h2, (hb.block _ (by omega)).trans h3, (hb.block _ (by omega)).trans h4, h5.trans (hb.mono (by omega))⟩
theorem Arr.size (h : Arr w code vendor m bs wr) : w.heap.size + 3 ≤ wr.heap.size := lt_of_row h.2.2.2.1
theorem Arr.later {W' : World} (hb : Below wr.heap.size wr W') (h : Arr w code vendor m bs wr) : Arr w code vendor m bs W' := h.below hb h.size
theorem Arr.cell (h : Arr w code vendor m bs wr) {i : Nat} {z : Int} (hi : bs[i]? = some z) : wr.cell? ⟨w.heap.size + 1 + 1, i, none⟩ = some (.int .u8 z) := by
  rw [cell_of_row _ _ _ _ _ _ h.2.2.2.1]
  simp [cells8, hi]
theorem Arr.range (h : Arr w code vendor m bs wr) : wr.rangeAt (w.heap.size + 1 + 1) 0 (cells8 bs) := fun j v hj => by
  obtain ⟨z, hz, rfl⟩ : ∃ z, bs[j]? = some z ∧ Value.int .u8 z = v := by simpa [cells8] using hj
  rw [Nat.zero_add]
  exact h.cell hz
theorem Arr.def0 (h : Arr w code vendor m bs wr) : wr.cell? ⟨w.heap.size + 1, 0, none⟩ = some (.int .u32 code) := by rw [cell_of_row _ _ _ _ _ _ h.2.2.1]; rfl
theorem Arr.def1 (h : Arr w code vendor m bs wr) : wr.cell? ⟨w.heap.size + 1, 1, none⟩ = some (.int .u32 vendor) := by rw [cell_of_row _ _ _ _ _ _ h.2.2.1]; rfl
theorem Arr.def2 (h : Arr w code vendor m bs wr) : wr.cell? ⟨w.heap.size + 1, 2, none⟩ = some (.bool m) := by rw [cell_of_row _ _ _ _ _ _ h.2.2.1]; rfl
theorem Arr.frozen (h : Arr w code vendor m bs wr) (j : Nat) : wr.frozen? ⟨w.heap.size + 1 + 1, j, none⟩ = false := by simp [World.frozen?, h.2.2.2.1]
theorem Arr.set (h : Arr w code vendor m bs wr) (i : Nat) (z : Int) (hz : 0 ≤ z ∧ z ≤ 255) : Arr w code vendor m (bs.set i z) (wr.setCell ⟨w.heap.size + 1 + 1, i, none⟩ (.int .u8 z)) := by
  obtain ⟨h1, h2, h3, h4, h5⟩ := h
  refine ⟨by simpa using h1, ?_, ?_, ?_, h5.setCell (by show w.heap.size ≤ w.heap.size + 1 + 1; omega) _⟩
  · intro x hx
    rcases List.mem_or_eq_of_mem_set hx with h | rfl
    · exact h2 x h
    · exact hz
  · rw [Below.heap_setCell _ _ _ _ (by show w.heap.size + 1 ≠ w.heap.size + 1 + 1; omega)]; exact h3
  · rw [set_row h4]
    simp [cells8]
end


theorem list16 {α : Type} (l : List α) (h : l.length = 16) : ∃ b0 b1 b2 b3 b4 b5 b6 b7 b8 b9 b10 b11 b12 b13 b14 b15, l = [b0, b1, b2, b3, b4, b5, b6, b7, b8, b9, b10, b11, b12, b13, b14, b15] := by
  match l, h with
  | [b0, b1, b2, b3, b4, b5, b6, b7, b8, b9, b10, b11, b12, b13, b14, b15], _ => exact ⟨b0, b1, b2, b3, b4, b5, b6, b7, b8, b9, b10, b11, b12, b13, b14, b15, rfl⟩

def held6 (w : World) (code vendor : Int) (m : Bool) (b0 b1 b2 b3 b4 b5 b6 b7 b8 b9 b10 b11 b12 b13 b14 b15 : Int) (w' : World) : Prop :=
  w'.rangeAt (w.heap.size + 1 + 1) 0 [.int .u8 b0, .int .u8 b1, .int .u8 b2, .int .u8 b3, .int .u8 b4, .int .u8 b5, .int .u8 b6, .int .u8 b7, .int .u8 b8, .int .u8 b9, .int .u8 b10, .int .u8 b11, .int .u8 b12, .int .u8 b13, .int .u8 b14, .int .u8 b15] ∧ w'.cell? ⟨w.heap.size + 1, 0, none⟩ = some (.int .u32 code) ∧ w'.cell? ⟨w.heap.size + 1, 1, none⟩ = some (.int .u32 vendor) ∧ w'.cell? ⟨w.heap.size + 1, 2, none⟩ = some (.bool m) ∧ Hid (Arr w code vendor m [b0, b1, b2, b3, b4, b5, b6, b7, b8, b9, b10, b11, b12, b13, b14, b15] w')
theorem held6_of {w : World} {code vendor : Int} {m : Bool} {b0 b1 b2 b3 b4 b5 b6 b7 b8 b9 b10 b11 b12 b13 b14 b15 : Int} {wr : World} (h : Arr w code vendor m [b0, b1, b2, b3, b4, b5, b6, b7, b8, b9, b10, b11, b12, b13, b14, b15] wr) : held6 w code vendor m b0 b1 b2 b3 b4 b5 b6 b7 b8 b9 b10 b11 b12 b13 b14 b15 wr :=
  ⟨h.range, h.def0, h.def1, h.def2, h⟩
theorem held6_arr {w : World} {code vendor : Int} {m : Bool} {b0 b1 b2 b3 b4 b5 b6 b7 b8 b9 b10 b11 b12 b13 b14 b15 : Int} {wr : World} (h : held6 w code vendor m b0 b1 b2 b3 b4 b5 b6 b7 b8 b9 b10 b11 b12 b13 b14 b15 wr) : Arr w code vendor m [b0, b1, b2, b3, b4, b5, b6, b7, b8, b9, b10, b11, b12, b13, b14, b15] wr :=
  h.2.2.2.2.out
theorem Arr.set4 {w : World} {code vendor : Int} {m : Bool} {bs : List Int} {W : World} (h : Arr w code vendor m bs W) (g : Nat) (hg : w.heap.size + 3 ≤ g) (u0 u1 u2 u3 : Value) :
    Arr w code vendor m bs ((((W.setCell ⟨g, 0, none⟩ u0).setCell ⟨g, 1, none⟩ u1).setCell ⟨g, 2, none⟩ u2).setCell ⟨g, 3, none⟩ u3) :=
  Arr.below (B := w.heap.size + 3) (((((Below.refl _ _).setCell (by exact hg) _).setCell (by exact hg) _).setCell (by exact hg) _).setCell (by exact hg) _) (Nat.le_refl _) h

/-- What the law holds behind 'a := d.Address(..)'. -/
def made6 (w : World) (code vendor fl : Int) (m : Bool) (bs : List Int) (n : Nat) (xs : List Value) (s16 : Value) (wx : World) : Prop :=
  ∃ b16 g1 c1 : Nat, s16 = .pointer (some ⟨b16, 0, none⟩) ∧ Arr w code vendor m bs wx ∧ wx.heap[b16]? = some (.cells #[.int .u32 code, .int .u8 fl, .int .u32 vendor, .slice (some ⟨g1, 0, none⟩) n c1] 29 (0, 0)) ∧
    g1 < wx.heap.size ∧ ∀ j u, xs[j]? = some u → wx.cell? ⟨g1, j, none⟩ = some u
theorem made6_set {w w2 : World} {code vendor fl : Int} {m : Bool} {bs : List Int} {n : Nat} {xs : List Value} (hh : Arr w code vendor m bs w2) (g g1 c1 : Nat) (hg : w.heap.size + 3 ≤ g) (hne : g1 ≠ g) {z0 z1 z2 z3 : Value} (hr : w2.heap[g]? = some (.cells #[z0, z1, z2, z3] 29 (0, 0))) (hlt : g1 < w2.heap.size)
    (hc : ∀ j u, xs[j]? = some u → w2.cell? ⟨g1, j, none⟩ = some u) :
    made6 w code vendor fl m bs n xs (.pointer (some ⟨g, 0, none⟩)) ((((w2.setCell ⟨g, 0, none⟩ (.int .u32 code)).setCell ⟨g, 1, none⟩ (.int .u8 fl)).setCell ⟨g, 2, none⟩ (.int .u32 vendor)).setCell ⟨g, 3, none⟩ (.slice (some ⟨g1, 0, none⟩) n c1)) := by
  refine ⟨g, g1, c1, rfl, hh.set4 g hg _ _ _ _, set_row (set_row (set_row (set_row hr 0 _) 1 _) 2 _) 3 _, by simpa [World.setCell] using hlt, fun j u hj => ?_⟩
  rw [set_cell hne, set_cell hne, set_cell hne, set_cell hne]
  exact hc j u hj
theorem made6_new {w w2 : World} {code vendor fl : Int} {m : Bool} {bs : List Int} {n : Nat} {xs : List Value} (hh : Arr w code vendor m bs w2) (g1 c1 : Nat) (hlt : g1 < w2.heap.size)
    (hc : ∀ j u, xs[j]? = some u → w2.cell? ⟨g1, j, none⟩ = some u) :
    made6 w code vendor fl m bs n xs (.pointer (some ⟨w2.heap.size, 0, none⟩)) (w2.alloc (.cells #[.int .u32 code, .int .u8 fl, .int .u32 vendor, .slice (some ⟨g1, 0, none⟩) n c1] 29)) :=
  ⟨w2.heap.size, g1, c1, rfl, hh.later (below1 _ _), heap_alloc_new w2 _, by simp; omega, fun j u hj => (World.cell?_alloc_lt _ _ ⟨g1, j, none⟩ hlt).trans (hc j u hj)⟩

/-- What d.Address writes for the octets. -/
def wantOf (bs : List Int) : List Value := if mappedB bs then .int .u8 0 :: .int .u8 1 :: cells8 (bs.drop 12) else .int .u8 0 :: .int .u8 2 :: cells8 bs

theorem address_words (code vendor : Int) (m : Bool) (b0 b1 b2 b3 b4 b5 b6 b7 b8 b9 b10 b11 b12 b13 b14 b15 : Int) (hb : ∀ z ∈ [b0, b1, b2, b3, b4, b5, b6, b7, b8, b9, b10, b11, b12, b13, b14, b15], 0 ≤ z ∧ z ≤ 255) (p4 p6 : Addr) (w : World) (hk : Kind p4 (some p6) false false w) :
    Calls Ybad.prog 6 #[.agg #[.int .u32 code, .int .u32 vendor, .bool m], .agg #[.int .u64 (hiOf b0 b1 b2 b3 b4 b5 b6 b7), .int .u64 (hiOf b8 b9 b10 b11 b12 b13 b14 b15), .pointer (some p6)]] w fun e w' =>
      ∃ s, e = .returned (.agg #[.int .u32 code, .int .u8 (flg vendor m), .int .u32 vendor, s]) ∧ w'.ownsRow w.heap.size 5 1 s (wantOf [b0, b1, b2, b3, b4, b5, b6, b7, b8, b9, b10, b11, b12, b13, b14, b15]).length (wantOf [b0, b1, b2, b3, b4, b5, b6, b7, b8, b9, b10, b11, b12, b13, b14, b15]) ∧ Below w.heap.size w w' := by
  obtain ⟨h0, h1, h2, h3, h4, h5, h6, h7, h8, h9, h10, h11, h12, h13, h14, h15⟩ := bound16 b0 b1 b2 b3 b4 b5 b6 b7 b8 b9 b10 b11 b12 b13 b14 b15 hb
  have k1 := hiOf_bounds b0 b1 b2 b3 b4 b5 b6 b7 h0 h1 h2 h3 h4 h5 h6 h7
  have k2 := hiOf_bounds b8 b9 b10 b11 b12 b13 b14 b15 h8 h9 h10 h11 h12 h13 h14 h15
  cases hm : mappedB [b0, b1, b2, b3, b4, b5, b6, b7, b8, b9, b10, b11, b12, b13, b14, b15]
  · have e : wantOf [b0, b1, b2, b3, b4, b5, b6, b7, b8, b9, b10, b11, b12, b13, b14, b15] = .int .u8 0 :: .int .u8 2 :: sixteen (hiOf b0 b1 b2 b3 b4 b5 b6 b7) (hiOf b8 b9 b10 b11 b12 b13 b14 b15) := by
      rw [sixteen_words b0 b1 b2 b3 b4 b5 b6 b7 b8 b9 b10 b11 b12 b13 b14 b15 hb, wantOf, hm]; rfl
    rw [e]
    exact address_six code vendor m _ _ k1.1 k1.2 k2.1 k2.2 ((mapped_words b0 b1 b2 b3 b4 b5 b6 b7 b8 b9 b10 b11 b12 b13 b14 b15 hb).trans hm) p4 p6 w hk
  · have e : wantOf [b0, b1, b2, b3, b4, b5, b6, b7, b8, b9, b10, b11, b12, b13, b14, b15] = .int .u8 0 :: .int .u8 1 :: four (hiOf b8 b9 b10 b11 b12 b13 b14 b15) := by
      rw [four_words b0 b1 b2 b3 b4 b5 b6 b7 b8 b9 b10 b11 b12 b13 b14 b15 hb, wantOf, hm]; rfl
    rw [e]
    exact address_mapped code vendor m _ _ k2.1 ((mapped_words b0 b1 b2 b3 b4 b5 b6 b7 b8 b9 b10 b11 b12 b13 b14 b15 hb).trans hm) p4 p6 w hk
theorem cells8_at (l : List Int) (j : Nat) (h : j < l.length) : ∃ z, (cells8 l)[j]? = some (.int .u8 z) := ⟨l[j], by simp [cells8, h]⟩
theorem wantOf_pos (bs : List Int) : 0 < (wantOf bs).length := by
  unfold wantOf; split <;> simp

set_option maxHeartbeats 1600000 in
theorem ip6_any (code vendor : Int) (m : Bool) (cs : List Int) (a0 a1 a2 a3 a4 a5 a6 a7 a8 a9 a10 a11 a12 a13 a14 a15 : Int) (hcs : cs = [a0, a1, a2, a3, a4, a5, a6, a7, a8, a9, a10, a11, a12, a13, a14, a15]) (hb : ∀ z ∈ cs, 0 ≤ z ∧ z ≤ 255) (mapped : Bool) (p4 p6 : Addr) (w : World) (c6 : w.cell? ⟨2, 0, none⟩ = some (.pointer (some p6))) (hk : Kind p4 (some p6) false false w) :
    Calls Ybad.prog 4 #[.int .u32 code, .int .u32 vendor, .bool m, .agg #[.int .u8 a0, .int .u8 a1, .int .u8 a2, .int .u8 a3, .int .u8 a4, .int .u8 a5, .int .u8 a6, .int .u8 a7, .int .u8 a8, .int .u8 a9, .int .u8 a10, .int .u8 a11, .int .u8 a12, .int .u8 a13, .int .u8 a14, .int .u8 a15], .bool mapped] w fun e w' => e = .returned (.bool true) ∧ Below w.heap.size w w' := by
  have C6 := hide c6
  have HK := hide hk
  have HB := hide hb
  clear c6 hk hb
  have hA0 : Hid (Arr w code vendor m cs (((w.alloc (.cells #[.int .u8 a0, .int .u8 a1, .int .u8 a2, .int .u8 a3, .int .u8 a4, .int .u8 a5, .int .u8 a6, .int .u8 a7, .int .u8 a8, .int .u8 a9, .int .u8 a10, .int .u8 a11, .int .u8 a12, .int .u8 a13, .int .u8 a14, .int .u8 a15] 42)).alloc (.cells #[.int .u32 code, .int .u32 vendor, .bool m] 25)).alloc (.cells #[.int .u8 a0, .int .u8 a1, .int .u8 a2, .int .u8 a3, .int .u8 a4, .int .u8 a5, .int .u8 a6, .int .u8 a7, .int .u8 a8, .int .u8 a9, .int .u8 a10, .int .u8 a11, .int .u8 a12, .int .u8 a13, .int .u8 a14, .int .u8 a15] 42))) := by
    obtain ⟨_, r1, r2, _, _⟩ := rows3 (Below.refl _ (((w.alloc (.cells #[.int .u8 a0, .int .u8 a1, .int .u8 a2, .int .u8 a3, .int .u8 a4, .int .u8 a5, .int .u8 a6, .int .u8 a7, .int .u8 a8, .int .u8 a9, .int .u8 a10, .int .u8 a11, .int .u8 a12, .int .u8 a13, .int .u8 a14, .int .u8 a15] 42)).alloc (.cells #[.int .u32 code, .int .u32 vendor, .bool m] 25)).alloc (.cells #[.int .u8 a0, .int .u8 a1, .int .u8 a2, .int .u8 a3, .int .u8 a4, .int .u8 a5, .int .u8 a6, .int .u8 a7, .int .u8 a8, .int .u8 a9, .int .u8 a10, .int .u8 a11, .int .u8 a12, .int .u8 a13, .int .u8 a14, .int .u8 a15] 42)))
    exact ⟨by rw [hcs]; rfl, HB.out, r1, by rw [r2, hcs]; rfl, below3 _ _ _ _⟩
  clear hcs HB
  go_enter Ybad.func4, Ybad.ntmps4
  go_upto_if 24 with fail
  go_cut [13] from 25 to 32 (fun _ wx => ∃ bs, Hid (Arr w code vendor m bs wx))
  case first =>
    cases mapped
    · go_wp2_with fail
      go_meet
      case rel => exact ⟨_, hA0⟩
    · go_wp2_with fail
      go_loopw [13] (fun i wr => ∃ k : Nat, k ≤ 10 ∧ i = .int .i64 k ∧ ∃ bs, Hid (Arr w code vendor m bs wr)) (fun i _ => 10 - (intOf i).toNat)
      case atStart =>
        exact ⟨0, by omega, rfl, _, hA0⟩
      case round =>
        obtain ⟨k, hk, rfl, bs, hA⟩ := hrel
        by_cases hlt : k < 10
        · have hlt' : (k : Int) < 10 := by omega
          obtain ⟨x, hx⟩ : ∃ x, bs[k]? = some x := ⟨_, List.getElem?_eq_getElem (by rw [hA.out.1]; omega)⟩
          have q := hA.out.cell hx
          have qf := hA.out.frozen k
          have hA1 := hide (hA.out.set k 0 (by omega))
          clear hx
          go_wp2
          go_roundw
          case rel => exact ⟨k + 1, by omega, by go_num, _, hA1⟩
          case measure => simp [intOf]; omega
        · obtain ⟨x, hx⟩ : ∃ x, bs[10]? = some x := ⟨_, List.getElem?_eq_getElem (by rw [hA.out.1]; omega)⟩
          obtain ⟨y, hy⟩ : ∃ y, bs[11]? = some y := ⟨_, List.getElem?_eq_getElem (by rw [hA.out.1]; omega)⟩
          have q := hA.out.cell hx
          have qy := hA.out.cell hy
          have qf := hA.out.frozen 10
          have qg := hA.out.frozen 11
          have hA1 := hide ((hA.out.set 10 255 (by omega)).set 11 255 (by omega))
          clear hx hy
          go_wp2
          go_meet
          case rel => exact ⟨_, hA1⟩
  case rest =>
    obtain ⟨bs, hA⟩ := hcut
    clear hA0
    obtain ⟨x10, hx10⟩ : ∃ x, bs[10]? = some x := ⟨_, List.getElem?_eq_getElem (by rw [hA.out.1]; omega)⟩
    obtain ⟨x11, hx11⟩ : ∃ x, bs[11]? = some x := ⟨_, List.getElem?_eq_getElem (by rw [hA.out.1]; omega)⟩
    have q10 := hA.out.cell hx10
    have q11 := hA.out.cell hx11
    have HM : Hid (mappedB bs = (((x10 == 255) && (x11 == 255)) && (bs.take 10).all (· == 0))) := by
      show mappedB bs = _
      unfold mappedB
      rw [hx10, hx11]
      rfl
    clear hx10 hx11
    go_upto_region 10 with fail
    go_cut [14] from 33 to 40 (fun v wx => v = .bool ((x10 == 255) && (x11 == 255)) ∧ Hid (Arr w code vendor m bs wx))
    case first =>
      obtain ⟨b1, hb1⟩ : ∃ b1, (x10 == 255) = b1 := ⟨_, rfl⟩
      obtain ⟨b2, hb2⟩ : ∃ b2, (x11 == 255) = b2 := ⟨_, rfl⟩
      cases b1 <;> cases b2
      all_goals
        go_wp2
        go_meet
        case rel => exact ⟨by rw [hb1, hb2]; rfl, hA⟩
    case rest =>
      obtain ⟨rfl, hA⟩ := hcut
      clear q10 q11
      obtain ⟨im, him⟩ : ∃ im, ((x10 == 255) && (x11 == 255)) = im := ⟨_, rfl⟩
      rw [him] at HM ⊢
      clear him
      go_wp2_with fail
      go_loopw [14, 15] (fun v i wr => ∃ k : Nat, k ≤ 10 ∧ i = .int .i64 k ∧ v = .bool (im && (bs.take k).all (· == 0)) ∧ Hid (Arr w code vendor m bs wr)) (fun _ i _ => 10 - (intOf i).toNat)
      case atStart => exact ⟨0, by omega, rfl, by simp, hA⟩
      case round =>
        obtain ⟨k, hk, rfl, rfl, hAr⟩ := hrel
        by_cases hlt : k < 10
        · have hlt' : (k : Int) < 10 := by omega
          obtain ⟨x, hx⟩ : ∃ x, bs[k]? = some x := ⟨_, List.getElem?_eq_getElem (by rw [hAr.out.1]; omega)⟩
          have q := hAr.out.cell hx
          have HT : Hid ((bs.take (k + 1)).all (· == 0) = ((bs.take k).all (· == 0) && (x == 0))) := by
            show _ = _
            rw [List.take_add_one, hx]; simp
          clear hx
          obtain ⟨b, hb⟩ : ∃ b, (x != 0) = b := ⟨_, rfl⟩
          cases b
          · go_wp2
            go_roundw
            case rel => exact ⟨k + 1, by omega, by go_num, by rw [HT.out, show (x == 0) = true by simpa using hb, Bool.and_true], hAr⟩
            case measure => simp [intOf]; omega
          · go_wp2
            go_roundw
            case rel => exact ⟨k + 1, by omega, by go_num, by rw [HT.out, show (x == 0) = false by simpa using hb, Bool.and_false, Bool.and_false], hAr⟩
            case measure => simp [intOf]; omega
        · obtain rfl : k = 10 := by omega
          rw [← HM.out]
          clear HM hA
          obtain ⟨b0, b1, b2, b3, b4, b5, b6, b7, b8, b9, b10, b11, b12, b13, b14, b15, rfl⟩ := list16 bs hAr.out.1
          have HF : Hid (∀ V, Below w.heap.size w V → Calls Ybad.prog 9 #[.agg #[.int .u8 b0, .int .u8 b1, .int .u8 b2, .int .u8 b3, .int .u8 b4, .int .u8 b5, .int .u8 b6, .int .u8 b7, .int .u8 b8, .int .u8 b9, .int .u8 b10, .int .u8 b11, .int .u8 b12, .int .u8 b13, .int .u8 b14, .int .u8 b15]] V fun e w' => e = .returned (.agg #[.int .u64 (hiOf b0 b1 b2 b3 b4 b5 b6 b7), .int .u64 (hiOf b8 b9 b10 b11 b12 b13 b14 b15), .pointer (some p6)]) ∧ Below V.heap.size V w') := by
            intro V hV; exact from16_any b0 b1 b2 b3 b4 b5 b6 b7 b8 b9 b10 b11 b12 b13 b14 b15 hAr.out.2.1 p6 V (cell_later hV C6.out)
          have HAD : Hid (∀ V, Below w.heap.size w V → Calls Ybad.prog 6 #[.agg #[.int .u32 code, .int .u32 vendor, .bool m], .agg #[.int .u64 (hiOf b0 b1 b2 b3 b4 b5 b6 b7), .int .u64 (hiOf b8 b9 b10 b11 b12 b13 b14 b15), .pointer (some p6)]] V fun e w' => ∃ s, e = .returned (.agg #[.int .u32 code, .int .u8 (flg vendor m), .int .u32 vendor, s]) ∧ w'.ownsRow V.heap.size 5 1 s (wantOf [b0, b1, b2, b3, b4, b5, b6, b7, b8, b9, b10, b11, b12, b13, b14, b15]).length (wantOf [b0, b1, b2, b3, b4, b5, b6, b7, b8, b9, b10, b11, b12, b13, b14, b15]) ∧ Below V.heap.size V w') := by
            intro V hV; exact address_words code vendor m b0 b1 b2 b3 b4 b5 b6 b7 b8 b9 b10 b11 b12 b13 b14 b15 hAr.out.2.1 p4 p6 V (HK.out.later hV)
          obtain ⟨hi, hhi⟩ : ∃ hi, hi = hiOf b0 b1 b2 b3 b4 b5 b6 b7 := ⟨_, rfl⟩
          obtain ⟨lo, hlo⟩ : ∃ lo, lo = hiOf b8 b9 b10 b11 b12 b13 b14 b15 := ⟨_, rfl⟩
          obtain ⟨fl, hfl⟩ : ∃ fl, fl = flg vendor m := ⟨_, rfl⟩
          obtain ⟨n, hn⟩ : ∃ n, n = (wantOf [b0, b1, b2, b3, b4, b5, b6, b7, b8, b9, b10, b11, b12, b13, b14, b15]).length := ⟨_, rfl⟩
          obtain ⟨xs, hxs⟩ : ∃ xs, xs = wantOf [b0, b1, b2, b3, b4, b5, b6, b7, b8, b9, b10, b11, b12, b13, b14, b15] := ⟨_, rfl⟩
          rw [← hhi, ← hlo] at HF
          rw [← hhi, ← hlo, ← hfl, ← hn, ← hxs] at HAD
          have HFL := hide hfl
          have HXS := hide hxs
          have HN := hide hn
          have hn0 : 0 < n := by rw [hn]; exact wantOf_pos _
          obtain ⟨im2, him2⟩ : ∃ im2, mappedB [b0, b1, b2, b3, b4, b5, b6, b7, b8, b9, b10, b11, b12, b13, b14, b15] = im2 := ⟨_, rfl⟩
          have HIM := hide him2
          rw [him2]
          clear him2 hhi hlo hfl hn hxs C6 HK
          have hU42 := Ybad.underlying42
          have hI42 : (Ybad.prog.info? 42).map (·.size) = some ([.int .u8 b0, .int .u8 b1, .int .u8 b2, .int .u8 b3, .int .u8 b4, .int .u8 b5, .int .u8 b6, .int .u8 b7, .int .u8 b8, .int .u8 b9, .int .u8 b10, .int .u8 b11, .int .u8 b12, .int .u8 b13, .int .u8 b14, .int .u8 b15] : List Value).length := by kernel_rfl
          go_upto_region 16 with fail
          have hD : Hid (held6 w code vendor m b0 b1 b2 b3 b4 b5 b6 b7 b8 b9 b10 b11 b12 b13 b14 b15 wr.drew) := held6_of (hAr.out.later (Below.refl _ _).drew)
          have hD1 : Hid (held6 w code vendor m b0 b1 b2 b3 b4 b5 b6 b7 b8 b9 b10 b11 b12 b13 b14 b15 (wr.alloc (.cells #[.int .u32 0, .int .u8 0, .int .u32 0, .slice none 0 0] 29)).drew) := held6_of (hAr.out.later (below1 _ _).drew)
          have hw3 := hAr.out.size
          go_cut [15, 16] from 41 to 52 (fun _ s16 wx => Hid (made6 w code vendor fl m [b0, b1, b2, b3, b4, b5, b6, b7, b8, b9, b10, b11, b12, b13, b14, b15] n xs s16 wx))
          case first =>
            go_region_held3 (fun w' => w'.rangeAt (w.heap.size + 1 + 1) 0 [.int .u8 b0, .int .u8 b1, .int .u8 b2, .int .u8 b3, .int .u8 b4, .int .u8 b5, .int .u8 b6, .int .u8 b7, .int .u8 b8, .int .u8 b9, .int .u8 b10, .int .u8 b11, .int .u8 b12, .int .u8 b13, .int .u8 b14, .int .u8 b15] ∧ w'.cell? ⟨w.heap.size + 1, 0, none⟩ = some (.int .u32 code) ∧ w'.cell? ⟨w.heap.size + 1, 1, none⟩ = some (.int .u32 vendor) ∧ w'.cell? ⟨w.heap.size + 1, 2, none⟩ = some (.bool m) ∧ Hid (Arr w code vendor m [b0, b1, b2, b3, b4, b5, b6, b7, b8, b9, b10, b11, b12, b13, b14, b15] w'))
              (first
                | exact held6_of hh2.out
                | exact held6_of (hh2.out.later (below1 _ _))
                | exact held6_of (hh2.out.set4 _ (by omega) _ _ _ _)
                | exact held6_of hh1.out
                | exact held6_of (hh1.out.later (below1 _ _))
                | exact hD.out
                | exact hD1.out)
              (first
                | (go_at_call 9; refine (HF.out _ (held6_arr (by assumption)).2.2.2.2).mono ?_; rintro e w1 ⟨rfl, hb1'⟩
                   have hb1 := hide hb1'
                   obtain ⟨k1, kf1⟩ := bcell hb1'
                   have hz1 := hb1'.size
                   rw [World.size_drew] at hz1
                   try rw [World.size_alloc] at hz1
                   try (have hq1 := Nat.lt_of_succ_le hz1)
                   have hh1 : Hid (Arr w code vendor m [b0, b1, b2, b3, b4, b5, b6, b7, b8, b9, b10, b11, b12, b13, b14, b15] w1) := (held6_arr (by assumption)).later hb1'
                   have hs1 := hh1.out.size
                   clear hb1')
                | (go_at_call 6; refine (HAD.out _ (held6_arr (by assumption)).2.2.2.2).mono ?_; rintro e w2 ⟨s, rfl, ho, hb2'⟩
                   have hb2 := hide hb2'
                   obtain ⟨g1, c1, rfl, hg1, hc1⟩ := ownsRow_pos ho hn0
                   have HC1 := hide hc1
                   have hge := (ho.lt g1 rfl).1
                   try rw [World.size_alloc] at hge
                   obtain ⟨k2, kf2⟩ := bcell hb2'
                   have hz2 := hb2'.size
                   try rw [World.size_alloc] at hz2
                   have hh2 : Hid (Arr w code vendor m [b0, b1, b2, b3, b4, b5, b6, b7, b8, b9, b10, b11, b12, b13, b14, b15] w2) := (held6_arr (by assumption)).later hb2'
                   clear hb2' ho hc1))
            · go_wp2
              go_meet
              case rel => exact made6_new hh2.out g1 c1 hg1 HC1.out
            · go_wp2
              go_meet
              case rel => exact made6_set hh2.out _ g1 c1 hs1 (by omega) ((hb2.out.block w1.heap.size (by simp)).trans (heap_alloc_new w1 _)) hg1 HC1.out
            · go_wp2
              go_meet
              case rel => exact made6_set hh2.out _ g1 c1 (by omega) (by omega) ((hb2.out.block wr.heap.size hq1).trans ((hb1.out.block wr.heap.size (by simp)).trans (heap_alloc_new wr _))) hg1 HC1.out
          case rest =>
            clear hD hD1 HF HAD hAr hU42 hI42
            obtain ⟨q16, g1, c1, rfl, hA, hr, hg1, hc1⟩ := hcut.out
            have HR := hide hr
            have HC := hide hc1
            have HA := hide hA
            have hs := hA.size
            have hq16 := lt_of_row hr
            have d0 := hA.def0
            have d1 := hA.def1
            have d2 := hA.def2
            clear hcut hr hc1
            cases im2
            · have e : xs = .int .u8 0 :: .int .u8 2 :: cells8 [b0, b1, b2, b3, b4, b5, b6, b7, b8, b9, b10, b11, b12, b13, b14, b15] := by rw [HXS.out, wantOf, HIM.out]; rfl
              have hn18 : n = 18 := by rw [HN.out, ← HXS.out, e]; rfl
              subst e hn18
              have hlt1 : w.heap.size + 1 < wc.heap.size := by omega
              have hlt2 : w.heap.size + 1 + 1 < wc.heap.size := by omega
              clear hA HXS HN HIM d0 d1 d2
              obtain ⟨i0, hi0, hz0, hz1, hz2⟩ := info_parts Ybad.info5
              go_wp2_with fail
              go_loopw [17, 18] (fun v i wr => ∃ k : Nat, k ≤ 16 ∧ i = .int .i64 k ∧ Hid (wr.ownsRow wc.heap.size 5 1 v (2 + k) (.int .u8 0 :: .int .u8 2 :: (cells8 [b0, b1, b2, b3, b4, b5, b6, b7, b8, b9, b10, b11, b12, b13, b14, b15]).take k)) ∧ Hid (Below wc.heap.size wc wr)) (fun _ i _ => 16 - (intOf i).toNat)
              case atStart => exact ⟨0, by omega, rfl, World.ownsRow_lit wc #[.int .u8 0, .int .u8 2] 2 (Nat.le_refl _) (by unfold maxLen; omega) rfl, below1 wc _⟩
              case round =>
                obtain ⟨k, hk, rfl, ho, hB⟩ := hrel
                by_cases hlt : k < 16
                · have hlt' : (k : Int) < 16 := by omega
                  obtain ⟨x, hx⟩ : ∃ x, ([b0, b1, b2, b3, b4, b5, b6, b7, b8, b9, b10, b11, b12, b13, b14, b15] : List Int)[k]? = some x := ⟨_, List.getElem?_eq_getElem (by show k < 16; omega)⟩
                  have q : wr.cell? ⟨w.heap.size + 1 + 1, k, none⟩ = some (.int .u8 x) := (hB.out.cell (by exact hlt2)).trans (HA.out.cell hx)
                  have HT : Hid ((cells8 [b0, b1, b2, b3, b4, b5, b6, b7, b8, b9, b10, b11, b12, b13, b14, b15]).take (k + 1) = (cells8 [b0, b1, b2, b3, b4, b5, b6, b7, b8, b9, b10, b11, b12, b13, b14, b15]).take k ++ [.int .u8 x]) := by
                    show _ = _
                    rw [List.take_add_one]
                    congr 1
                    unfold cells8
                    rw [List.getElem?_map, hx]
                    rfl
                  clear hx
                  have hs2 := hB.out.size
                  go_wp2_with (at_builtin; refine wpList_append_own _ rfl _ _ 27 rfl wc.heap.size 5 i0 (.int .u8 0) 1 1 Ybad.underlying27 hi0 hz0 hz1 hz2 rfl (by decide) _ (2 + k) _ rfl (ho.out.alloc _) _ 1 1 [.int .u8 x] rfl rfl ?c1 ?c2 ?c3 ?c4 ?c5 ?_)
                  case c1 =>
                    intro j u hj
                    match j, hj with
                    | 0, hj => simp at hj; subst hj; simp [Addr.add]
                  case c2 => intro u hu; simp at hu; subst hu; rfl
                  case c3 => unfold maxLen; omega
                  case c4 => omega
                  case c5 => simp; omega
                  intro v' w2 hown' hgrow _
                  have HO2 : Hid (w2.ownsRow wc.heap.size 5 1 v' (2 + (k + 1)) (.int .u8 0 :: .int .u8 2 :: (cells8 [b0, b1, b2, b3, b4, b5, b6, b7, b8, b9, b10, b11, b12, b13, b14, b15]).take (k + 1))) := by
                    show w2.ownsRow _ _ _ _ _ _
                    rw [HT.out]; exact hown'
                  have HB2 : Hid (Below wc.heap.size wc w2) := (hB.out.alloc hs2 _).grown hgrow (by simp; omega) (fun k hk => (ho.out.lt k hk).1)
                  clear hown' hgrow HT
                  go_wp2
                  go_roundw
                  case rel => exact ⟨k + 1, by omega, by go_num, HO2, HB2⟩
                  case measure => simp [intOf]; omega
                · obtain rfl : k = 16 := by omega
                  obtain ⟨g2, c2, rfl, hg2, hc2⟩ := ownsRow_pos ho.out (by decide)
                  have HC2 := hide hc2
                  have hs2 := hB.out.size
                  have hA2 := HA.out.later hB.out
                  have e0 := hA2.def0
                  have e1 := hA2.def1
                  have e2 := hA2.def2
                  have HR2 := hide ((hB.out.block q16 hq16).trans HR.out)
                  have HBW := hide hA2.2.2.2.2
                  have hc := check_any code vendor m g1 g2 c1 c2 18 (.int .u8 0 :: .int .u8 2 :: cells8 [b0, b1, b2, b3, b4, b5, b6, b7, b8, b9, b10, b11, b12, b13, b14, b15]) (fun j hj => cells8_at (0 :: 2 :: [b0, b1, b2, b3, b4, b5, b6, b7, b8, b9, b10, b11, b12, b13, b14, b15]) j hj) (by decide) wr
                    (fun j u hj => (hB.out.cell (by exact hg1)).trans (HC.out j u hj)) (fun j u hj => HC2.out j u hj) (by omega) hg2
                  rw [← HFL.out] at hc
                  have HCK := hide hc
                  clear hc hc2 hA2
                  go_wp2_with (first
                    | (refine wpList_load_row rfl 29 (.tmp 16) rfl q16 rfl 29 _ (0, 0) _ HR2.out Ybad.underlying29 rfl (by kernel_rfl) ?_))
                  refine HCK.out.mono ?_
                  rintro e w3 ⟨rfl, hb3⟩
                  have HB3 : Hid (Below w.heap.size w w3) := HBW.out.trans (hb3.mono (by omega))
                  clear hb3
                  go_wp2
                  go_ret
                  exact ⟨rfl, HB3.out⟩
            · have x12 := hA.cell (i := 12) rfl
              have x13 := hA.cell (i := 13) rfl
              have x14 := hA.cell (i := 14) rfl
              have x15 := hA.cell (i := 15) rfl
              have e : xs = [.int .u8 0, .int .u8 1, .int .u8 b12, .int .u8 b13, .int .u8 b14, .int .u8 b15] := by rw [HXS.out, wantOf, HIM.out]; rfl
              have hn6 : n = 6 := by rw [HN.out, ← HXS.out, e]; rfl
              subst e hn6
              have hlt1 : w.heap.size + 1 < wc.heap.size := by omega
              clear hA HXS HN HIM
              go_wp2_with (first
                | (refine wpList_load_row rfl 29 (.tmp 16) rfl q16 rfl 29 _ (0, 0) _ ((Below.heap_alloc wc _ q16 hq16).trans HR.out) Ybad.underlying29 rfl (by kernel_rfl) ?_))
              have hc := check_any code vendor m g1 wc.heap.size c1 6 6 [.int .u8 0, .int .u8 1, .int .u8 b12, .int .u8 b13, .int .u8 b14, .int .u8 b15] (fun j hj => by match j, hj with | 0, _ => exact ⟨_, rfl⟩ | 1, _ => exact ⟨_, rfl⟩ | 2, _ => exact ⟨_, rfl⟩ | 3, _ => exact ⟨_, rfl⟩ | 4, _ => exact ⟨_, rfl⟩ | 5, _ => exact ⟨_, rfl⟩) (by decide) (wc.alloc (.cells #[.int .u8 0, .int .u8 1, .int .u8 b12, .int .u8 b13, .int .u8 b14, .int .u8 b15] 5))
                (fun j u hj => (World.cell?_alloc_lt _ _ ⟨g1, j, none⟩ hg1).trans (HC.out j u hj)) (fun j u hj => want_cells rfl j u hj) (by simp; omega) (by simp)
              rw [← HFL.out] at hc
              refine hc.mono ?_
              rintro e w3 ⟨rfl, hb3⟩
              have HB3 : Hid (Below w.heap.size w w3) := (HA.out.2.2.2.2.alloc (by omega) _).trans (hb3.mono (by simp; omega))
              clear hc hb3
              go_wp2
              go_ret
              exact ⟨rfl, HB3.out⟩
end Go.Proofs.YbulkbgqwDoor

import Derived.Test.YbulkbgqwDoorCheck
namespace Go.Proofs.YbulkbgqwDoor
open Go.RowKit

theorem eq_none_none (w : World) : (Op.equalIn 9999 34 (.pointer none) (.pointer none)).run Ybad.prog w = .ok true w := by kernel_rfl
theorem eq_none_some (p : Addr) (w : World) : (Op.equalIn 9999 34 (.pointer none) (.pointer (some p))).run Ybad.prog w = .ok false w := by kernel_rfl
theorem eq_some_none (p : Addr) (w : World) : (Op.equalIn 9999 34 (.pointer (some p)) (.pointer none)).run Ybad.prog w = .ok false w := by kernel_rfl

theorem kind_zero (p4 : Addr) (w : World) (c4 : w.cell? ⟨1, 0, none⟩ = some (.pointer (some p4))) (c0 : w.cell? ⟨3, 0, none⟩ = some (.pointer none)) : Kind p4 none true false w :=
  ⟨c4, c0, fun W' _ => eq_none_none W', fun W' _ => eq_none_some p4 W'⟩

/-- d.Address(netip.Addr{}). -/
theorem address_zero (code vendor : Int) (m : Bool) (p4 : Addr) (w : World) (hk : Kind p4 none true false w) :
    Calls Ybad.prog 6 #[.agg #[.int .u32 code, .int .u32 vendor, .bool m], .agg #[.int .u64 0, .int .u64 0, .pointer none]] w fun e w' =>
      ∃ s, e = .returned (.agg #[.int .u32 code, .int .u8 (flg vendor m), .int .u32 vendor, s]) ∧ w'.ownsRow w.heap.size 5 1 s 2 [.int .u8 0, .int .u8 1] ∧ Below w.heap.size w w' :=
  address_any code vendor m 0 0 none none false 0 [] (by simp) (by omega) w
    (fun W hb => unmap_not p4 none true false 0 0 (Int.le_refl 0) W (hk.later hb) rfl)
    (fun W hb => (is6_any p4 none true false 0 0 W (hk.later hb)).mono fun e w' ⟨h1, h2⟩ => ⟨h1, by rw [h2]; exact below1 _ _⟩)
    (fun W hb => (asSlice_zero p4 none false 0 0 W (hk.later hb)).mono fun e w' ⟨h1, h2⟩ => ⟨_, h1, ⟨rfl, .inl ⟨rfl, rfl⟩⟩, h2⟩)

/-- What one alloc laid, in a later world. -/
theorem row1 {w w1 : World} {A : Obj} (hb : Below (w.alloc A).heap.size (w.alloc A) w1) : w1.heap[w.heap.size]? = some A ∧ w.heap.size + 1 ≤ w1.heap.size ∧ Below w.heap.size w w1 := by
  have hs : (w.alloc A).heap.size = w.heap.size + 1 := by simp
  have hz := hb.size
  rw [hs] at hb hz
  exact ⟨(hb.block _ (by omega)).trans (heap_alloc_new w A), hz, (below1 w A).trans (hb.mono (by omega))⟩

/-- The cells of the AVP's data, behind the store of the AVP and the making of 'want'. -/
theorem data_later {w1 w2 : World} {A B : Obj} {g1 : Nat} (ht : Touch w1.heap.size (w1.alloc A) w2) (hg : g1 < w1.heap.size) (j : Nat) : (w2.alloc B).cell? ⟨g1, j, none⟩ = w1.cell? ⟨g1, j, none⟩ := by
  have hz : w2.heap.size = w1.heap.size + 1 := by rw [ht.size]; simp
  refine World.cell?_of_block ?_
  show (w2.alloc B).heap[g1]? = w1.heap[g1]?
  rw [Below.heap_alloc w2 B g1 (by omega), ht.other g1 (by omega), Below.heap_alloc w1 A g1 hg]
/-- The cells of 'want'. -/
theorem want_cells {w2 : World} {xs : List Value} {N : Nat} (hN : w2.heap.size = N) (j : Nat) (u : Value) (hj : xs[j]? = some u) : (w2.alloc (.cells xs.toArray 5)).cell? ⟨N, j, none⟩ = some u := by
  subst hN
  rw [cell_of_row _ _ _ _ _ _ (heap_alloc_new w2 _)]
  simpa using hj

set_option maxHeartbeats 800000 in
theorem zero_any (code vendor : Int) (m : Bool) (p4 : Addr) (w : World) (hk : Kind p4 none true false w) :
    Calls Ybad.prog 5 #[.int .u32 code, .int .u32 vendor, .bool m] w fun e w' => e = .returned (.bool true) ∧ Below w.heap.size w w' := by
  have HA := hide (address_zero code vendor m p4 _ (hk.later (below1 w (.cells #[.int .u32 code, .int .u32 vendor, .bool m] 25))))
  clear hk
  obtain ⟨fl, hfl⟩ : ∃ fl, fl = flg vendor m := ⟨_, rfl⟩
  rw [← hfl] at HA
  have HFL := hide hfl
  clear hfl
  go_enter Ybad.func5, Ybad.ntmps5
  go_wp2_with fail
  refine HA.out.mono ?_
  rintro e w1 ⟨s, rfl, ho, hb⟩
  obtain ⟨r0, hz1, hbw⟩ := row1 hb
  obtain ⟨g1, c1, rfl, hg1, hc1⟩ := ownsRow_pos ho (by decide)
  have R0 := hide r0
  have HC1 := hide hc1
  have HB := hide hbw
  clear HA r0 hc1 hb hbw ho
  go_wp2_with (first
    | (refine wpList_store_letter rfl 29 (.tmp 8) (.tmp 15) rfl w1.heap.size #[.int .u32 code, .int .u8 fl, .int .u32 vendor, .slice (some ⟨g1, 0, none⟩) 2 c1] rfl rfl 29 _ (heap_alloc_new w1 _) (by kernel_rfl) rfl (by kernel_rfl) ?_; intro w2 hg2 ht2
       have hz2 : w2.heap.size = w1.heap.size + 1 := by rw [ht2.size]; simp
       have R02 := hide ((ht2.other w.heap.size (by omega)).trans ((Below.heap_alloc w1 _ w.heap.size (by omega)).trans R0.out))
       have HB2 := hide (ht2.below (HB.out.alloc (by omega) _) (by omega))
       have HT2 := hide ht2
       clear ht2 R0 HB)
    | (refine wpList_load_row rfl 29 (.tmp 8) rfl w1.heap.size rfl 29 _ (0, 0) _ hg2.out Ybad.underlying29 rfl (by kernel_rfl) ?_)
    | (refine wpList_load_row rfl 25 (.tmp 7) rfl w.heap.size rfl 25 _ (0, 0) _ R02.out Ybad.underlying25 rfl (by kernel_rfl) ?_))
  have hc := check_any code vendor m g1 (w1.heap.size + 1) c1 2 2 [.int .u8 0, .int .u8 1] (fun j hj => by match j, hj with | 0, _ => exact ⟨_, rfl⟩ | 1, _ => exact ⟨_, rfl⟩) (by decide) (w2.alloc (.cells #[.int .u8 0, .int .u8 1] 5))
    (fun j u hj => (data_later HT2.out hg1 j).trans (HC1.out j u hj)) (fun j u hj => want_cells hz2 j u hj) (by simp; omega) (by simp; omega)
  rw [← HFL.out] at hc
  refine hc.mono ?_
  rintro e w3 ⟨rfl, hb3⟩
  have HB3 : Hid (Below w.heap.size w w3) := (HB2.out.alloc (by omega) _).trans (hb3.mono (by simp; omega))
  clear hc hb3
  go_wp2
  go_ret
  exact ⟨rfl, HB3.out⟩
end Go.Proofs.YbulkbgqwDoor

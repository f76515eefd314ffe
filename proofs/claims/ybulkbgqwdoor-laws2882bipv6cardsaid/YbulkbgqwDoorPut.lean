import Derived.Test.YbulkbgqwDoorFrom4
namespace Go.Proofs.YbulkbgqwDoor
open Go.RowKit

set_option maxHeartbeats 800000 in
theorem put32 (g : Nat) (v : Int) (h0 : 0 ≤ v) (h1 : v < 4294967296) (x0 x1 x2 x3 : Value) (w : World) (c0 : w.cell? ⟨g, 0, none⟩ = some x0) (c1 : w.cell? ⟨g, 1, none⟩ = some x1) (c2 : w.cell? ⟨g, 2, none⟩ = some x2) (c3 : w.cell? ⟨g, 3, none⟩ = some x3)
    (hf : ∀ j, w.frozen? ⟨g, j, none⟩ = false) :
    Calls Ybad.prog 18 #[.slice (some ⟨g, 0, none⟩) 4 4, .int .u32 v] w fun e w' => e = .returned (.tuple #[]) ∧ w' = (((w.setCell ⟨g, 0, none⟩ (.int .u8 (v / 16777216))).setCell ⟨g, 1, none⟩ (.int .u8 (v / 65536 % 256))).setCell ⟨g, 2, none⟩ (.int .u8 (v / 256 % 256))).setCell ⟨g, 3, none⟩ (.int .u8 (v % 256)) := by
  go_enter Ybad.func18, Ybad.ntmps18
  go_wp2
  go_end0
  exact ⟨rfl, rfl⟩

/-- An array that the call made last, as a slice. -/
theorem lies_new (w : World) (A : Obj) (xs : List Value) (t : TypeId) (c : Nat) : Lies ((w.alloc A).alloc (.cells xs.toArray t)).drew (.slice (some ⟨w.heap.size + 1, 0, none⟩) xs.length c) xs.length xs := by
  refine ⟨rfl, .inr ⟨_, _, rfl, fun j u hj => ?_⟩⟩
  rw [addr_add, World.cell?_drew]
  have hs : (w.alloc A).heap.size = w.heap.size + 1 := by simp
  rw [cell_of_row _ _ _ _ _ _ (by rw [← hs]; exact heap_alloc_new (w.alloc A) (.cells xs.toArray t))]
  simpa using hj

/-- The four octets of the low word's low half. -/
def four (lo : Int) : List Value := [.int .u8 (lo % 4294967296 / 16777216), .int .u8 (lo % 4294967296 / 65536 % 256), .int .u8 (lo % 4294967296 / 256 % 256), .int .u8 (lo % 4294967296 % 256)]

set_option maxHeartbeats 800000 in
/-- AsSlice of an IPv4 address. -/
theorem asSlice_four (p4 : Addr) (z : Option Addr) (hi lo : Int) (w : World) (hk : Kind p4 z false true w) :
    Calls Ybad.prog 14 #[.agg #[.int .u64 hi, .int .u64 lo, .pointer z]] w fun e w' => ∃ s, e = .returned s ∧ Lies w' s 4 (four lo) ∧ Below w.heap.size w w' := by
  obtain ⟨c4, c0, f0, f4⟩ := hk.later (below1 w (.cells #[.int .u64 hi, .int .u64 lo, .pointer z] 38))
  have e0 := f0 _ (Below.refl _ _)
  have e4 := f4 _ (Below.refl _ _)
  clear f0 f4 hk
  obtain ⟨v, hv⟩ : ∃ v, v = lo % 4294967296 := ⟨_, rfl⟩
  have hP := hide (put32 (w.heap.size + 1) v (by omega) (by omega) (.int .u8 0) (.int .u8 0) (.int .u8 0) (.int .u8 0) (((w.alloc (.cells #[.int .u64 hi, .int .u64 lo, .pointer z] 38)).alloc (.cells #[.int .u8 0, .int .u8 0, .int .u8 0, .int .u8 0] 23)).drew) (by simp) (by simp) (by simp) (by simp) (by simp))
  have HFOUR : Hid (four lo = [.int .u8 (v / 16777216), .int .u8 (v / 65536 % 256), .int .u8 (v / 256 % 256), .int .u8 (v % 256)]) := by rw [hv]; rfl
  have hv' : IntKind.u32.wrap lo = v := by rw [hv, IntKind.wrap_u32]
  clear hv
  go_enter Ybad.func14, Ybad.ntmps14
  go_wp2_with fail
  go_region_held3 (fun w' => w'.cell? ⟨w.heap.size, 1, none⟩ = some (.int .u64 lo))
    (simp [go_sem, World.cell?_alloc_past])
    (first
      | (go_at_call 18; refine hP.out.mono ?_; rintro e w' ⟨rfl, rfl⟩))
  go_wp2
  go_ret
  rw [HFOUR.out]
  exact ⟨_, rfl, lies_new w _ _ 23 4, (below2 w _ _).drew⟩

theorem eq_same (p : Addr) (w : World) : (Op.equalIn 9999 34 (.pointer (some p)) (.pointer (some p))).run Ybad.prog w = .ok true w := by
  have h77 : (sizeOf 77).run Ybad.prog w = .ok 2 w := by kernel_rfl
  have h : ∀ d : Nat, (Op.equalIn (d + 1) 34 (.pointer (some p)) (.pointer (some p))).run Ybad.prog w = .ok true w := fun d => by
    simp [Op.equalIn, run_underlying Ybad.underlying34, h77, run_sameAddr_same]
  exact h 9998
theorem eq_other (p p' : Addr) (w : World) {c c' : Array Value} {t t' : TypeId} (hne : p ≠ p') (h1 : w.heap[p.block]? = some (.cells c t (0, 0))) (h2 : w.heap[p'.block]? = some (.cells c' t' (0, 0))) :
    (Op.equalIn 9999 34 (.pointer (some p)) (.pointer (some p'))).run Ybad.prog w = .ok false w := by
  have h77 : (sizeOf 77).run Ybad.prog w = .ok 2 w := by kernel_rfl
  have h : ∀ d : Nat, (Op.equalIn (d + 1) 34 (.pointer (some p)) (.pointer (some p'))).run Ybad.prog w = .ok false w := fun d => by
    simp [Op.equalIn, run_underlying Ybad.underlying34, h77, run_sameAddr_other w hne h1 h2]
  exact h 9998

theorem kind_four (p4 : Addr) (w : World) (c4 : w.cell? ⟨1, 0, none⟩ = some (.pointer (some p4))) (c0 : w.cell? ⟨3, 0, none⟩ = some (.pointer none)) : Kind p4 (some p4) false true w :=
  ⟨c4, c0, fun W' _ => eq_some_none p4 W', fun W' _ => eq_same p4 W'⟩

theorem four_one (lo : Int) : ∀ u ∈ four lo, u.oneCell' = true := by
  intro u hu
  simp only [four, List.mem_cons, List.not_mem_nil, or_false] at hu
  rcases hu with rfl | rfl | rfl | rfl <;> rfl

/-- d.Address of an IPv4 address. -/
theorem address_four (code vendor : Int) (m : Bool) (hi lo : Int) (h0 : 0 ≤ lo) (p4 : Addr) (w : World) (hk : Kind p4 (some p4) false true w) :
    Calls Ybad.prog 6 #[.agg #[.int .u32 code, .int .u32 vendor, .bool m], .agg #[.int .u64 hi, .int .u64 lo, .pointer (some p4)]] w fun e w' =>
      ∃ s, e = .returned (.agg #[.int .u32 code, .int .u8 (flg vendor m), .int .u32 vendor, s]) ∧ w'.ownsRow w.heap.size 5 1 s 6 (.int .u8 0 :: .int .u8 1 :: four lo) ∧ Below w.heap.size w w' :=
  address_any code vendor m hi lo (some p4) (some p4) false 4 (four lo) (four_one lo) (by omega) w
    (fun W hb => unmap_not p4 (some p4) false true hi lo h0 W (hk.later hb) rfl)
    (fun W hb => (is6_any p4 (some p4) false true hi lo W (hk.later hb)).mono fun e w' ⟨h1, h2⟩ => ⟨h1, by rw [h2]; exact below1 _ _⟩)
    (fun W hb => asSlice_four p4 (some p4) hi lo W (hk.later hb))
end Go.Proofs.YbulkbgqwDoor

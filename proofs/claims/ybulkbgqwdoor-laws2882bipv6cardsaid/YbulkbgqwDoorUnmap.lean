import Derived.Test.YbulkbgqwDoorBase
namespace Go.Proofs.YbulkbgqwDoor
open Go.RowKit

theorem hide {p : Prop} (h : p) : Hid p := h
theorem below5 (w : World) (A B C D E : Obj) : Below w.heap.size w (((((w.alloc A).alloc B).alloc C).alloc D).alloc E) :=
  ((below3 w A B C).alloc (by simp; omega) _).alloc (by simp; omega) _
theorem below4 (w : World) (A B C D : Obj) : Below w.heap.size w ((((w.alloc A).alloc B).alloc C).alloc D) := (below3 w A B C).alloc (by simp; omega) _

set_option maxHeartbeats 400000 in
/-- (netip.Addr).Unmap where the address is not mapped. -/
theorem unmap_not (p4 : Addr) (z : Option Addr) (zero four : Bool) (hi lo : Int) (h0 : 0 ≤ lo) (w : World) (hk : Kind p4 z zero four w) (hm : ((!zero && !four) && ((hi == 0) && (lo / 4294967296 == 65535))) = false) :
    Calls Ybad.prog 10 #[.agg #[.int .u64 hi, .int .u64 lo, .pointer z]] w fun e w' => e = .returned (.agg #[.int .u64 hi, .int .u64 lo, .pointer z]) ∧ Below w.heap.size w w' := by
  have hI := is4in6_any p4 z zero four hi lo h0 _ (hk.later (below2 w (.cells #[.int .u64 hi, .int .u64 lo, .pointer z] 38) (.cells #[.int .u64 0, .int .u64 0, .pointer none] 38)))
  rw [hm] at hI
  have HI := hide hI
  clear hI hm hk
  go_enter Ybad.func10, Ybad.ntmps10
  go_wp2_with (go_at_call 17; refine HI.out.mono ?_; rintro e w' ⟨rfl, rfl⟩)
  exact bodyPost_ret (v := .agg #[.int .u64 hi, .int .u64 lo, .pointer z]) (by simp [results, Ybad.results10, go_sem]) rfl ⟨rfl, below4 _ _ _ _ _⟩

set_option maxHeartbeats 400000 in
/-- (netip.Addr).Unmap where the address is mapped. -/
theorem unmap_yes (p4 : Addr) (z : Option Addr) (zero four : Bool) (hi lo : Int) (h0 : 0 ≤ lo) (w : World) (hk : Kind p4 z zero four w) (hm : ((!zero && !four) && ((hi == 0) && (lo / 4294967296 == 65535))) = true) :
    Calls Ybad.prog 10 #[.agg #[.int .u64 hi, .int .u64 lo, .pointer z]] w fun e w' => e = .returned (.agg #[.int .u64 hi, .int .u64 lo, .pointer (some p4)]) ∧ Below w.heap.size w w' := by
  have hI := is4in6_any p4 z zero four hi lo h0 _ (hk.later (below2 w (.cells #[.int .u64 hi, .int .u64 lo, .pointer z] 38) (.cells #[.int .u64 0, .int .u64 0, .pointer none] 38)))
  rw [hm] at hI
  have HI := hide hI
  have c4 := (hk.later (below4 w (.cells #[.int .u64 hi, .int .u64 lo, .pointer z] 38) (.cells #[.int .u64 0, .int .u64 0, .pointer none] 38) (.cells #[.int .u64 hi, .int .u64 lo, .pointer z] 38) (.cells #[.int .u64 hi, .int .u64 lo, .pointer z] 38))).c4
  clear hI hm hk
  go_enter Ybad.func10, Ybad.ntmps10
  go_wp2_with (go_at_call 17; refine HI.out.mono ?_; rintro e w' ⟨rfl, rfl⟩)

  exact bodyPost_ret (v := .agg #[.int .u64 hi, .int .u64 lo, .pointer (some p4)]) (by simp [results, Ybad.results10, go_sem]) rfl ⟨rfl, below4 _ _ _ _ _⟩
end Go.Proofs.YbulkbgqwDoor

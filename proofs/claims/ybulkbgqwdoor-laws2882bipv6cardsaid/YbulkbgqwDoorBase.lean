import Derived.Test.YbulkbgqwDoorRows
import Derived.WalkKit
import Derived.WalkSpells
import Derived.WalkLawsBesides
import Derived.Laws.StructEq
import Derived.LaidEql
import Derived.BigQuiet
import Derived.RowKit3
namespace Go.Proofs.YbulkbgqwDoor
open Go.RowKit

/-- The flags of a definition. -/
def flg (vendor : Int) (m : Bool) : Int := (if vendor = 0 then 0 else 128) + (if m then 64 else 0)

set_option maxHeartbeats 400000 in
theorem flags_any (code vendor : Int) (m : Bool) (w : World) :
    Calls Ybad.prog 15 #[.agg #[.int .u32 code, .int .u32 vendor, .bool m]] w fun e w' => e = .returned (.int .u8 (flg vendor m)) ∧ w' = w.alloc (.cells #[.int .u32 code, .int .u32 vendor, .bool m] 25) := by
  by_cases hv : vendor = 0
  · subst hv
    cases m
    · go_enter Ybad.func15, Ybad.ntmps15
      go_wp2
      go_ret
      exact ⟨rfl, rfl⟩
    · go_enter Ybad.func15, Ybad.ntmps15
      go_wp2
      go_ret
      exact ⟨rfl, rfl⟩
  · have hv' : (vendor != 0) = true := by simpa using hv
    cases m
    · have e1 : flg vendor false = 128 := by simp [flg, hv]
      rw [e1]
      clear e1
      go_enter Ybad.func15, Ybad.ntmps15
      go_wp2
      go_ret
      exact ⟨rfl, rfl⟩
    · have e1 : flg vendor true = 192 := by simp [flg, hv]
      rw [e1]
      clear e1
      go_enter Ybad.func15, Ybad.ntmps15
      go_wp2
      go_ret
      exact ⟨rfl, rfl⟩

theorem below3 (w : World) (A B C : Obj) : Below w.heap.size w (((w.alloc A).alloc B).alloc C) :=
  (((Below.refl _ _).alloc (Nat.le_refl _) _).alloc (by simp) _).alloc (by simp; omega) _

set_option maxHeartbeats 400000 in
theorem new_any (code vendor : Int) (m : Bool) (p : Option Addr) (n c : Nat) (w : World) :
    Calls Ybad.prog 12 #[.agg #[.int .u32 code, .int .u32 vendor, .bool m], .slice p n c] w fun e w' => e = .returned (.agg #[.int .u32 code, .int .u8 (flg vendor m), .int .u32 vendor, .slice p n c]) ∧ Below w.heap.size w w' := by
  by_cases hv : vendor = 0
  · subst hv
    cases m
    · go_enter Ybad.func12, Ybad.ntmps12
      go_wp2
      exact bodyPost_ret (v := .agg #[.int .u32 code, .int .u8 0, .int .u32 0, .slice p n c]) (by simp [results, Ybad.results12, go_sem]) rfl ⟨rfl, below3 _ _ _ _⟩
    · go_enter Ybad.func12, Ybad.ntmps12
      go_wp2
      exact bodyPost_ret (v := .agg #[.int .u32 code, .int .u8 64, .int .u32 0, .slice p n c]) (by simp [results, Ybad.results12, go_sem]; rfl) rfl ⟨rfl, below3 _ _ _ _⟩
  · have hv' : (vendor != 0) = true := by simpa using hv
    cases m
    · have e1 : flg vendor false = 128 := by simp [flg, hv]
      rw [e1]
      clear e1
      go_enter Ybad.func12, Ybad.ntmps12
      go_wp2
      exact bodyPost_ret (v := .agg #[.int .u32 code, .int .u8 128, .int .u32 vendor, .slice p n c]) (by simp [results, Ybad.results12, go_sem]; rfl) rfl ⟨rfl, below3 _ _ _ _⟩
    · have e1 : flg vendor true = 192 := by simp [flg, hv]
      rw [e1]
      clear e1
      go_enter Ybad.func12, Ybad.ntmps12
      go_wp2
      exact bodyPost_ret (v := .agg #[.int .u32 code, .int .u8 192, .int .u32 vendor, .slice p n c]) (by simp [results, Ybad.results12, go_sem]; rfl) rfl ⟨rfl, below3 _ _ _ _⟩

/-! ### The address's kind: a pointer: nil, z4's, any other: what the comparisons with z0 and z4 give, in this world and in every later one. -/
structure Kind (p4 : Addr) (z : Option Addr) (zero four : Bool) (W : World) : Prop where
  c4 : W.cell? ⟨1, 0, none⟩ = some (.pointer (some p4))
  c0 : W.cell? ⟨3, 0, none⟩ = some (.pointer none)
  e0 : ∀ W', Below W.heap.size W W' → (Op.equalIn 9999 34 (.pointer z) (.pointer none)).run Ybad.prog W' = .ok zero W'
  e4 : ∀ W', Below W.heap.size W W' → (Op.equalIn 9999 34 (.pointer z) (.pointer (some p4))).run Ybad.prog W' = .ok four W'

theorem Kind.later {p4 : Addr} {z : Option Addr} {zero four : Bool} {W W1 : World} (h : Kind p4 z zero four W) (hb : Below W.heap.size W W1) : Kind p4 z zero four W1 :=
  ⟨cell_later hb h.c4, cell_later hb h.c0, fun W' h' => h.e0 W' (hb.trans (h'.mono hb.size)), fun W' h' => h.e4 W' (hb.trans (h'.mono hb.size))⟩

theorem below1 (w : World) (A : Obj) : Below w.heap.size w (w.alloc A) := (Below.refl _ _).alloc (Nat.le_refl _) _

set_option maxHeartbeats 400000 in
/-- (netip.Addr).Is6. -/
theorem is6_any (p4 : Addr) (z : Option Addr) (zero four : Bool) (hi lo : Int) (w : World) (hk : Kind p4 z zero four w) :
    Calls Ybad.prog 11 #[.agg #[.int .u64 hi, .int .u64 lo, .pointer z]] w fun e w' => e = .returned (.bool (!zero && !four)) ∧ w' = w.alloc (.cells #[.int .u64 hi, .int .u64 lo, .pointer z] 38) := by
  have hb := below1 w (.cells #[.int .u64 hi, .int .u64 lo, .pointer z] 38)
  obtain ⟨c4, c0, f0, f4⟩ := hk.later hb
  have e0 := f0 _ (Below.refl _ _)
  have e4 := f4 _ (Below.refl _ _)
  clear f0 f4 hk hb
  cases zero <;> cases four
  all_goals
    go_enter Ybad.func11, Ybad.ntmps11
    go_wp2
    go_ret
    exact ⟨rfl, rfl⟩

theorem below2 (w : World) (A B : Obj) : Below w.heap.size w ((w.alloc A).alloc B) := (below1 w A).alloc (by simp) _

set_option maxHeartbeats 400000 in
/-- (netip.Addr).Is4In6. -/
theorem is4in6_any (p4 : Addr) (z : Option Addr) (zero four : Bool) (hi lo : Int) (_h0 : 0 ≤ lo) (w : World) (hk : Kind p4 z zero four w) :
    Calls Ybad.prog 17 #[.agg #[.int .u64 hi, .int .u64 lo, .pointer z]] w fun e w' => e = .returned (.bool ((!zero && !four) && ((hi == 0) && (lo / 4294967296 == 65535)))) ∧ w' = (w.alloc (.cells #[.int .u64 hi, .int .u64 lo, .pointer z] 38)).alloc (.cells #[.int .u64 hi, .int .u64 lo, .pointer z] 38) := by
  have hk1 := hk.later (below1 w (.cells #[.int .u64 hi, .int .u64 lo, .pointer z] 38))
  have HI : Hid (Calls Ybad.prog 11 #[.agg #[.int .u64 hi, .int .u64 lo, .pointer z]] (w.alloc (.cells #[.int .u64 hi, .int .u64 lo, .pointer z] 38)) fun e w' => e = .returned (.bool (!zero && !four)) ∧ w' = (w.alloc (.cells #[.int .u64 hi, .int .u64 lo, .pointer z] 38)).alloc (.cells #[.int .u64 hi, .int .u64 lo, .pointer z] 38)) := is6_any p4 z zero four hi lo _ hk1
  clear hk hk1
  obtain ⟨six, hsix⟩ : ∃ six, six = (!zero && !four) := ⟨_, rfl⟩
  rw [← hsix] at HI ⊢
  clear hsix
  cases six
  · go_enter Ybad.func17, Ybad.ntmps17
    go_wp2_with (go_at_call 11; refine HI.out.mono ?_; rintro e w' ⟨rfl, rfl⟩)
    go_ret
    exact ⟨rfl, rfl⟩
  · obtain ⟨b1, hb1⟩ : ∃ b1, b1 = (hi == 0) := ⟨_, rfl⟩
    rw [← hb1]
    have hb1' := hb1.symm; clear hb1
    cases b1
    · go_enter Ybad.func17, Ybad.ntmps17
      go_wp2_with (go_at_call 11; refine HI.out.mono ?_; rintro e w' ⟨rfl, rfl⟩)
      go_ret
      exact ⟨rfl, rfl⟩
    · go_enter Ybad.func17, Ybad.ntmps17
      go_wp2_with (go_at_call 11; refine HI.out.mono ?_; rintro e w' ⟨rfl, rfl⟩)
      go_ret
      exact ⟨rfl, rfl⟩
end Go.Proofs.YbulkbgqwDoor

import Derived.Test.YbulkbgqwDoorUnmap
import Derived.Deep.RegionHeld3
namespace Go.Proofs.YbulkbgqwDoor
open Go.RowKit

theorem Ybad.info5 : (Ybad.prog.info? 5).map (fun i => (i.zero, i.size, i.bytes)) = some (some (.int .u8 0), 1, 1) := by kernel_rfl

set_option maxHeartbeats 800000 in
/-- binary.BigEndian.AppendUint16(nil, v). -/
theorem append16 (v : Int) (h0 : 0 ≤ v) (h1 : v ≤ 65535) (w : World) :
    Calls Ybad.prog 13 #[.agg #[], .slice none 0 0, .int .u16 v] w fun e w' => ∃ s, e = .returned s ∧ w'.ownsRow w.heap.size 5 1 s 2 [.int .u8 (v / 256), .int .u8 (v % 256)] ∧ Below w.heap.size w w' := by
  obtain ⟨i0, hi, hz0, hz1, hz2⟩ := info_parts Ybad.info5
  go_enter Ybad.func13, Ybad.ntmps13
  go_wp2_with (at_builtin; refine wpList_append_own _ rfl _ _ 27 rfl w.heap.size 5 i0 (.int .u8 0) 1 1 Ybad.underlying27 hi hz0 hz1 hz2 rfl (by decide) _ _ _ rfl (World.ownsRow_nil _ _ 5 1) _ 2 2 [.int .u8 (v / 256), .int .u8 (v % 256)] rfl rfl ?c1 ?c2 ?c3 ?c4 ?c5 ?_)
  case c1 =>
    intro j u hj
    match j, hj with
    | 0, hj => simp at hj; subst hj; simp [Addr.add]
    | 1, hj => simp at hj; subst hj; simp [Addr.add]
  case c2 => intro u hu; simp at hu; rcases hu with rfl | rfl <;> rfl
  case c3 => unfold maxLen; omega
  case c4 => omega
  case c5 => simp; omega
  intro v' w2 hown' hgrow _
  go_wp2
  go_ret
  refine ⟨v', rfl, hown', ?_⟩
  exact (below2 w _ _).grown hgrow (by simp; omega) (fun k hk => by cases hk)

set_option maxHeartbeats 400000 in
/-- AsSlice of the zero address. -/
theorem asSlice_zero (p4 : Addr) (z : Option Addr) (four : Bool) (hi lo : Int) (w : World) (hk : Kind p4 z true four w) :
    Calls Ybad.prog 14 #[.agg #[.int .u64 hi, .int .u64 lo, .pointer z]] w fun e w' => e = .returned (.slice none 0 0) ∧ Below w.heap.size w w' := by
  obtain ⟨c4, c0, f0, f4⟩ := hk.later (below1 w (.cells #[.int .u64 hi, .int .u64 lo, .pointer z] 38))
  have e0 := f0 _ (Below.refl _ _)
  clear f0 f4 hk
  go_enter Ybad.func14, Ybad.ntmps14
  go_wp2
  go_ret
  exact ⟨rfl, below1 _ _⟩
end Go.Proofs.YbulkbgqwDoor

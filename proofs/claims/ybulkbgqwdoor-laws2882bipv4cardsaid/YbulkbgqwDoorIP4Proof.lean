import Derived.Test.YbulkbgqwDoorIP4
import Derived.Test.YbulkbgqwDoorOpen
import Derived.Test.YbulkbgqwDoorTie
import Derived.Test.YbulkbgqwDoorCards
import Derived.LaidHandle
import Derived.Stop.Joined
import Derived.SevenTiedAt
namespace Go.Proofs.YbulkbgqwDoor
open Go.ChangeShapes Go.WideShapes Go.ChangeAt Go.RowKit

/-- A world in which the variables hold what the row lists: for the witness. -/
def laidWorld4 (P : Program) (os : Os) : World :=
  let low := (World.holding P default ⟨#[], #[], []⟩).heap.size
  let w0 := World.holding P os ⟨#[.cells #[.bool false, .string ⟨#[]⟩] 77], #[], []⟩
  { w0 with heap := w0.heap.modify 1 fun
      | .cells _ t frozen => .cells #[.pointer (some ⟨low, 0, none⟩)] t frozen
      | o => o }
theorem laid_met4 (os : Os) (args : Array Value) : laidMetH Ybad.prog Rows.lawS2882BIPv4Row.laid ((laidWorld4 Ybad.prog os).forCall (fun _ _ => 0) ⟨#[], args, []⟩).memory :=
  laidMet_of_run (ps := [.cell 1 0, .cell ((World.holding Ybad.prog default ⟨#[], #[], []⟩).heap.size) 0, .cell ((World.holding Ybad.prog default ⟨#[], #[], []⟩).heap.size) 1, .cell 3 0]) 8 (by kernel_rfl) (by kernel_rfl) (by kernel_rfl)

set_option maxRecDepth 100000 in
theorem ip4_lifted (os : Os) (started : os.Started) (H : Type) (enc : TypeId × Value → H) :
    ReturnsInHanded {} Ybad.checked os 3 .any (fun w args => (Rows.lawS2882BIPv4Spec.pre enc Ybad.prog Ybad.f3 [] false w args ∧ laidMetH Ybad.prog Rows.lawS2882BIPv4Row.laid w) ∧ sizedMet enc Ybad.prog Ybad.f3 (OpenSpec.ofChange Rows.lawS2882BIPv4Spec) false w args)
      (Rows.lawS2882BIPv4Spec.post enc Ybad.prog Ybad.f3 false true false false) := by
  refine returnsInHanded_of_change_and (C := Ybad.checked) (X := fun w _ => laidMetH Ybad.prog Rows.lawS2882BIPv4Row.laid w) (fun _ _ _ hh h => h.of_heap hh) Ybad.own started (by kernel_rfl) Ybad.func3
    (witness_ref (enc := enc) (os := os) (X := fun w _ => laidMetH Ybad.prog Rows.lawS2882BIPv4Row.laid w) (laidWorld4 Ybad.prog os) #[.int .u32 0, .int .u32 0, .bool false, .agg #[.int .u8 0, .int .u8 0, .int .u8 0, .int .u8 0]] 8 rfl (by kernel_rfl) (by kernel_rfl) (by kernel_rfl) (by kernel_rfl) (by kernel_rfl) (laid_met4 os _)) ?_
  intro W base args ds gs before hval0 hW _ _ hL _
  have hval : ∀ (j : Nat) t v, Ybad.f3.params[j]? = some t → args[j]? = some v → Value.okWide Ybad.prog W .any base t v := hval0
  have hW' := hW
  obtain ⟨p, q, hA0, hV, rfl, hfz, hnd⟩ := hW
  have hA : DataW.TrodAll enc Ybad.prog W 0 (fun _ => true) true Ybad.f3.params.toList args.toList ds p := hA0
  rw [Ybad.params3] at hA hval
  obtain ⟨v0, v1, v2, v3, d0, d1, d2, d3, p0, p1, p2, p3, rfl, rfl, rfl, h0, h1, h2, h3⟩ := trodAll_four hA
  obtain ⟨rfl, rfl⟩ := trodVars_none hV
  obtain ⟨code, rfl, rfl, rfl, wc⟩ := open_int Ybad.underlying22 (hval 0 22 v0 rfl rfl) h0
  obtain ⟨vendor, rfl, rfl, rfl, wv⟩ := open_int Ybad.underlying22 (hval 1 22 v1 rfl rfl) h1
  obtain ⟨m, rfl, rfl, rfl⟩ := open_bool Ybad.underlying4 (hval 2 4 v2 rfl rfl) h2
  obtain ⟨zs, rfl, hl, hz, rfl⟩ := open_octets Ybad.underlying23 Ybad.cells23 (hval 3 23 v3 rfl rfl) h3
  obtain ⟨b0, b1, b2, b3, rfl⟩ := list4 zs hl
  clear hA0 hval0
  simp only [List.append_nil] at hW'
  obtain ⟨p4, c4, c0⟩ := laid_four (by kernel_rfl) (by kernel_rfl) hL
  refine (ip4_any code vendor m b0 b1 b2 b3 (hz b0 (by simp)) (hz b1 (by simp)) (hz b2 (by simp)) (hz b3 (by simp)) p4 W (kind_four p4 W c4 c0)).mono fun e W' ⟨he, hb⟩ => ?_
  subst he
  refine ⟨_, rfl, _, _, _, [], [], [], hW', ?_, ?_, rfl, hb.frame _, fun h => by cases h⟩
  · exact trodAll_mk1 (shut_bool Ybad.underlying4 _)
  · exact trodAll_mk4 (shut_int Ybad.underlying22 wc) (shut_int Ybad.underlying22 wv) (shut_bool Ybad.underlying4 m) (Below.trod Ybad.laidOut (by kernel_rfl) (of_decide_eq_true (by kernel_rfl)) h3 hb (by simp))

theorem ip4_holds : Rows.LawS2882BIPv4Said :=
  OpenClaim.holds_of_wide 3 Ybad.f3 rfl rfl rfl rfl rfl rfl rfl ⟨rfl, rfl, rfl, rfl, rfl⟩ rfl rfl rfl rfl rfl (by kernel_rfl) Ybad.func3 (by kernel_rfl)
    (of_decide_eq_true (by kernel_rfl)) (by unfold Func.isWrapper; rw [if_neg (of_decide_eq_false (by kernel_rfl))]; exact ⟨rfl, rfl⟩)
    (fun os started H enc _ => ip4_lifted os started H enc)

theorem ip4_card : Rows.LawS2882BIPv4CardSaid :=
  Claim7.holds_tied_plain_at .later [] [.called, .zero] true _ false
    ip4_holds (fun _ h => by cases h) (by kernel_rfl) (fun _ h => by cases h) lawS2882BIPv4_row_tie rfl ⟨rfl, rfl⟩ (by kernel_rfl) rfl
    (fun f fn hf hfn => by
      obtain rfl : f = 3 := Option.some.inj ((show Ybad.prog.funcNamed Rows.lawS2882BIPv4Row.func = some 3 by kernel_rfl).symm.trans hf) |>.symm
      obtain rfl : fn = Ybad.f3 := (Option.some.inj (Ybad.func3.symm.trans hfn)).symm
      refine ⟨by kernel_rfl, fun j t ht => ?_⟩
      rw [Ybad.params3] at ht
      match j, ht with
      | 0, ht => obtain rfl : t = 22 := by simpa using ht.symm
                 exact (show Ybad.prog.wantsStandIn 22 = false by kernel_rfl)
      | 1, ht => obtain rfl : t = 22 := by simpa using ht.symm
                 exact (show Ybad.prog.wantsStandIn 22 = false by kernel_rfl)
      | 2, ht => obtain rfl : t = 4 := by simpa using ht.symm
                 exact (show Ybad.prog.wantsStandIn 4 = false by kernel_rfl)
      | 3, ht => obtain rfl : t = 23 := by simpa using ht.symm
                 exact (show Ybad.prog.wantsStandIn 23 = false by kernel_rfl)
      | j + 4, ht => simp at ht)
    (by kernel_rfl)
end Go.Proofs.YbulkbgqwDoor

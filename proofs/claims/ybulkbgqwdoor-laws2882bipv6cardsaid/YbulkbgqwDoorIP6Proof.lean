import Derived.Test.YbulkbgqwDoorIP6
import Derived.Test.YbulkbgqwDoorLaid6
import Derived.Test.YbulkbgqwDoorOpen
import Derived.Test.YbulkbgqwDoorTie
import Derived.Test.YbulkbgqwDoorCards
import Derived.LaidHandle
import Derived.Stop.Joined
import Derived.SevenTiedAt
namespace Go.Proofs.YbulkbgqwDoor
open Go.ChangeShapes Go.WideShapes Go.ChangeAt Go.RowKit

theorem trodAll_five {H : Type} {enc : TypeId × Value → H} {P : Program} {w : World} {base : Nat} {spare : Nat → Bool} {held : Bool} {t0 t1 t2 t3 t4 : TypeId} {args : Array Value} {ds : List (DataW H)} {ps : List MemPlace} (h : DataW.TrodAll enc P w base spare held [t0, t1, t2, t3, t4] args.toList ds ps) :
    ∃ v0 v1 v2 v3 v4 d0 d1 d2 d3 d4 p0 p1 p2 p3 p4, args = #[v0, v1, v2, v3, v4] ∧ ds = [d0, d1, d2, d3, d4] ∧ ps = p0 ++ (p1 ++ (p2 ++ (p3 ++ p4))) ∧ DataW.Trod enc P w base spare held t0 v0 d0 p0 ∧ DataW.Trod enc P w base spare held t1 v1 d1 p1 ∧ DataW.Trod enc P w base spare held t2 v2 d2 p2 ∧ DataW.Trod enc P w base spare held t3 v3 d3 p3 ∧ DataW.Trod enc P w base spare held t4 v4 d4 p4 := by
  obtain ⟨v0, vs0, d0, ds0, p0, q0, hargs, rfl, rfl, h0, r0⟩ := trodAll_cons h
  obtain ⟨v1, vs1, d1, ds1, p1, q1, rfl, rfl, rfl, h1, r1⟩ := trodAll_cons r0
  obtain ⟨v2, vs2, d2, ds2, p2, q2, rfl, rfl, rfl, h2, r2⟩ := trodAll_cons r1
  obtain ⟨v3, vs3, d3, ds3, p3, q3, rfl, rfl, rfl, h3, r3⟩ := trodAll_cons r2
  obtain ⟨v4, vs4, d4, ds4, p4, q4, rfl, rfl, rfl, h4, r4⟩ := trodAll_cons r3
  obtain ⟨rfl, rfl, rfl⟩ := trodAll_nil r4
  refine ⟨v0, v1, v2, v3, v4, d0, d1, d2, d3, d4, p0, p1, p2, p3, p4, ?_, rfl, by simp, h0, h1, h2, h3, h4⟩
  cases args; simp_all

/-- A world in which the variables hold what the row lists: for the witness. -/
def laidWorld6 (P : Program) (os : Os) : World :=
  let low := (World.holding P default ⟨#[], #[], []⟩).heap.size
  let w0 := World.holding P os ⟨#[.cells #[.bool false, .string ⟨#[]⟩] 77, .cells #[.bool true, .string ⟨#[]⟩] 77], #[], []⟩
  { w0 with heap := (w0.heap.modify 1 fun
      | .cells _ t frozen => .cells #[.pointer (some ⟨low, 0, none⟩)] t frozen
      | o => o).modify 2 fun
      | .cells _ t frozen => .cells #[.pointer (some ⟨low + 1, 0, none⟩)] t frozen
      | o => o }
theorem laid_met6 (os : Os) (args : Array Value) : laidMetH Ybad.prog Rows.lawS2882BIPv6Row.laid ((laidWorld6 Ybad.prog os).forCall (fun _ _ => 0) ⟨#[], args, []⟩).memory :=
  laidMet_of_run (ps := [.cell 1 0, .cell ((World.holding Ybad.prog default ⟨#[], #[], []⟩).heap.size) 0, .cell ((World.holding Ybad.prog default ⟨#[], #[], []⟩).heap.size) 1, .cell 2 0, .cell ((World.holding Ybad.prog default ⟨#[], #[], []⟩).heap.size + 1) 0, .cell ((World.holding Ybad.prog default ⟨#[], #[], []⟩).heap.size + 1) 1, .cell 3 0]) 8 (by kernel_rfl) (by kernel_rfl) (by kernel_rfl)

set_option maxRecDepth 100000 in
theorem ip6_lifted (os : Os) (started : os.Started) (H : Type) (enc : TypeId × Value → H) :
    ReturnsInHanded {} Ybad.checked os 4 .any (fun w args => (Rows.lawS2882BIPv6Spec.pre enc Ybad.prog Ybad.f4 [] false w args ∧ laidMetH Ybad.prog Rows.lawS2882BIPv6Row.laid w) ∧ sizedMet enc Ybad.prog Ybad.f4 (OpenSpec.ofChange Rows.lawS2882BIPv6Spec) false w args)
      (Rows.lawS2882BIPv6Spec.post enc Ybad.prog Ybad.f4 false true false false) := by
  refine returnsInHanded_of_change_and (C := Ybad.checked) (X := fun w _ => laidMetH Ybad.prog Rows.lawS2882BIPv6Row.laid w) (fun _ _ _ hh h => h.of_heap hh) Ybad.own started (by kernel_rfl) Ybad.func4
    (witness_ref (enc := enc) (os := os) (X := fun w _ => laidMetH Ybad.prog Rows.lawS2882BIPv6Row.laid w) (laidWorld6 Ybad.prog os) #[.int .u32 0, .int .u32 0, .bool false, .agg #[.int .u8 0, .int .u8 0, .int .u8 0, .int .u8 0, .int .u8 0, .int .u8 0, .int .u8 0, .int .u8 0, .int .u8 0, .int .u8 0, .int .u8 0, .int .u8 0, .int .u8 0, .int .u8 0, .int .u8 0, .int .u8 0], .bool false] 8 rfl (by kernel_rfl) (by kernel_rfl) (by kernel_rfl) (by kernel_rfl) (by kernel_rfl) (laid_met6 os _)) ?_
  intro W base args ds gs before hval0 hW _ _ hL _
  have hval : ∀ (j : Nat) t v, Ybad.f4.params[j]? = some t → args[j]? = some v → Value.okWide Ybad.prog W .any base t v := hval0
  have hW' := hW
  obtain ⟨p, q, hA0, hV, rfl, hfz, hnd⟩ := hW
  have hA : DataW.TrodAll enc Ybad.prog W 0 (fun _ => true) true Ybad.f4.params.toList args.toList ds p := hA0
  rw [Ybad.params4] at hA hval
  obtain ⟨v0, v1, v2, v3, v4, d0, d1, d2, d3, d4, p0, p1, p2, p3, p5, rfl, rfl, rfl, h0, h1, h2, h3, h4⟩ := trodAll_five hA
  obtain ⟨rfl, rfl⟩ := trodVars_none hV
  obtain ⟨code, rfl, rfl, rfl, wc⟩ := open_int Ybad.underlying22 (hval 0 22 v0 rfl rfl) h0
  obtain ⟨vendor, rfl, rfl, rfl, wv⟩ := open_int Ybad.underlying22 (hval 1 22 v1 rfl rfl) h1
  obtain ⟨m, rfl, rfl, rfl⟩ := open_bool Ybad.underlying4 (hval 2 4 v2 rfl rfl) h2
  obtain ⟨zs, rfl, hl, hz, rfl⟩ := open_octets Ybad.underlying42 Ybad.cells42 (hval 3 42 v3 rfl rfl) h3
  obtain ⟨mapped, rfl, rfl, rfl⟩ := open_bool Ybad.underlying4 (hval 4 4 v4 rfl rfl) h4
  obtain ⟨b0, b1, b2, b3, b4, b5, b6, b7, b8, b9, b10, b11, b12, b13, b14, b15, rfl⟩ := list16 zs hl
  clear hA0 hval0
  simp only [List.append_nil] at hW'
  obtain ⟨p4, p6, c4, c6, c0, hne, ⟨_, _, r4⟩, ⟨_, _, r6⟩⟩ := laid_six (by kernel_rfl) (by kernel_rfl) (by kernel_rfl) hL
  refine (ip6_any code vendor m _ b0 b1 b2 b3 b4 b5 b6 b7 b8 b9 b10 b11 b12 b13 b14 b15 rfl hz mapped p4 p6 W c6 (kind_six p4 p6 W c4 c0 hne r6 r4)).mono fun e W' ⟨he, hb⟩ => ?_
  subst he
  refine ⟨_, rfl, _, _, _, [], [], [], hW', ?_, ?_, rfl, hb.frame _, fun h => by cases h⟩
  · exact trodAll_mk1 (shut_bool Ybad.underlying4 _)
  · exact trodAll_cons_mk (shut_int Ybad.underlying22 wc) (trodAll_mk4 (shut_int Ybad.underlying22 wv) (shut_bool Ybad.underlying4 m) (Below.trod Ybad.laidOut (by kernel_rfl) (of_decide_eq_true (by kernel_rfl)) h3 hb (by simp)) (shut_bool Ybad.underlying4 mapped))

theorem ip6_holds : Rows.LawS2882BIPv6Said :=
  OpenClaim.holds_of_wide 4 Ybad.f4 rfl rfl rfl rfl rfl rfl rfl ⟨rfl, rfl, rfl, rfl, rfl⟩ rfl rfl rfl rfl rfl (by kernel_rfl) Ybad.func4 (by kernel_rfl)
    (of_decide_eq_true (by kernel_rfl)) (by unfold Func.isWrapper; rw [if_neg (of_decide_eq_false (by kernel_rfl))]; exact ⟨rfl, rfl⟩)
    (fun os started H enc _ => ip6_lifted os started H enc)

theorem ip6_card : Rows.LawS2882BIPv6CardSaid :=
  Claim7.holds_tied_plain_at .later [] [.called, .called, .zero] true _ false
    ip6_holds (fun _ h => by cases h) (by kernel_rfl) (fun _ h => by cases h) lawS2882BIPv6_row_tie rfl ⟨rfl, rfl⟩ (by kernel_rfl) rfl
    (fun f fn hf hfn => by
      obtain rfl : f = 4 := Option.some.inj ((show Ybad.prog.funcNamed Rows.lawS2882BIPv6Row.func = some 4 by kernel_rfl).symm.trans hf) |>.symm
      obtain rfl : fn = Ybad.f4 := (Option.some.inj (Ybad.func4.symm.trans hfn)).symm
      refine ⟨by kernel_rfl, fun j t ht => ?_⟩
      rw [Ybad.params4] at ht
      match j, ht with
      | 0, ht => obtain rfl : t = 22 := by simpa using ht.symm
                 exact (show Ybad.prog.wantsStandIn 22 = false by kernel_rfl)
      | 1, ht => obtain rfl : t = 22 := by simpa using ht.symm
                 exact (show Ybad.prog.wantsStandIn 22 = false by kernel_rfl)
      | 2, ht => obtain rfl : t = 4 := by simpa using ht.symm
                 exact (show Ybad.prog.wantsStandIn 4 = false by kernel_rfl)
      | 3, ht => obtain rfl : t = 42 := by simpa using ht.symm
                 exact (show Ybad.prog.wantsStandIn 42 = false by kernel_rfl)
      | 4, ht => obtain rfl : t = 4 := by simpa using ht.symm
                 exact (show Ybad.prog.wantsStandIn 4 = false by kernel_rfl)
      | j + 5, ht => simp at ht)
    (by kernel_rfl)
end Go.Proofs.YbulkbgqwDoor

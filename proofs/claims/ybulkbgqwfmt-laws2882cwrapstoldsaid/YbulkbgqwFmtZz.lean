import Derived.Test.YbulkbgqwFmtNil
namespace Go.Proofs.YbulkbgqwFmt
open Go.RowKit Go.Extern.Stop Go.Stop Go.Extern
attribute [local go_sem] Ybaf.call16 Ybaf.guard Ybaf.fmt0 Ybaf.fmt0r Ybaf.act26 Ybaf.isError26 Ybaf.ptr51 Ybaf.elem51

theorem Ybaf.str26 : ∃ n, ∀ w : World, (typeStr 26).run Ybaf.prog w = .ok n w := ⟨Ybaf.t26.str, fun _ => by kernel_rfl⟩

set_option maxHeartbeats 400000 in
/-- (*zzs2882cerr).Error. -/
theorem error37 (b : Nat) (s : ByteArray) (w : World) (h0 : w.cell? ⟨b, 0, none⟩ = some (.string s)) :
    Calls Ybaf.prog 37 #[.pointer (some ⟨b, 0, none⟩)] w fun e w' => e = .returned (.string s) ∧ w' = w := by
  go_enter Ybaf.func37, Ybaf.ntmps37
  go_wp2
  go_ret
  exact ⟨rfl, rfl⟩

set_option maxRecDepth 100000 in
set_option maxHeartbeats 1600000 in
theorem read_zz (F : Interp) (a0 a1 : Addr) (b : Nat) (s : ByteArray) (w : World) (hF : F.answers w.tape) (hg0 : w.cell? ⟨0, 0, none⟩ = some (.iface 68 (.pointer (some a0)))) (hg1 : w.cell? ⟨1, 0, none⟩ = some (.iface 68 (.pointer (some a1)))) (h0 : w.cell? ⟨b, 0, none⟩ = some (.string s)) :
    Calls Ybaf.prog 6 #[.iface 26 (.pointer (some ⟨b, 0, none⟩))] w fun e w' => e = .returned (.iface 51 (.pointer (some ⟨w.heap.size + 1, 0, none⟩))) ∧ ∃ s, w' = ((w.alloc (.cells #[.iface 26 (.pointer (some ⟨b, 0, none⟩))] 20)).alloc (.cells #[.string s, .iface 26 (.pointer (some ⟨b, 0, none⟩))] 91)).drew := by
  have hF' := answers_open hF
  obtain ⟨n26, str26⟩ := Ybaf.str26
  have e0 := fun v => run_eql_iface_types (P := Ybaf.prog) 26 68 (.pointer (some ⟨b, 0, none⟩)) v Ybaf.underlying23 (by decide) w
  go_enter Ybaf.func6, Ybaf.ntmps6
  go_wp2
  apply rows_call Ybaf.nextTurns
  case hr =>
    go_simp
    exact ⟨⟨rfl, rfl, rfl⟩, rfl⟩
  case hi => exact Ybaf.invokeError26 _ _
  case hc =>
    refine (error37 b s _ (by rw [World.cell?_alloc_lt _ _ ⟨b, 0, none⟩ (World.block_lt_of_cell? _ _ h0)]; exact h0)).mono fun e w₃ ⟨he, hx⟩ => ?_
    subst he; subst hx
    apply rows_value Ybaf.nextReturned
    case hr =>
      go_simp
      exact ⟨rfl, rfl⟩
    case h =>
      go_wp2
      go_ret
      exact ⟨rfl, _, rfl⟩
end Go.Proofs.YbulkbgqwFmt

import Derived.Test.YbulkbgqwDoorAddr
namespace Go.Proofs.YbulkbgqwDoor
open Go.RowKit

theorem addr_add (b o i : Nat) : (⟨b, o, none⟩ : Addr).add i = ⟨b, o + i, none⟩ := by unfold Addr.add; split <;> simp_all

theorem ownsRow_pos {w : World} {B : Nat} {v : Value} {n : Nat} {xs : List Value} (h : w.ownsRow B 5 1 v n xs) (hn : 0 < n) :
    ∃ g c, v = .slice (some ⟨g, 0, none⟩) n c ∧ g < w.heap.size ∧ ∀ j u, xs[j]? = some u → w.cell? ⟨g, j, none⟩ = some u := by
  obtain ⟨hl, hc⟩ := id h
  rcases hc with ⟨_, rfl⟩ | ⟨g, cap, cur, rfl, _, hg, _⟩
  · omega
  · refine ⟨g, cap, rfl, (h.lt g rfl).2, fun j u hj => ?_⟩
    have := h.cells (g := g) rfl j u hj
    rw [addr_add] at this
    simpa using this

set_option maxHeartbeats 800000 in
theorem check_any (code vendor : Int) (m : Bool) (g1 g2 c1 c2 n : Nat) (xs : List Value) (hxs : ∀ j, j < n → ∃ z, xs[j]? = some (.int .u8 z)) (hn : n ≤ 1000) (w : World)
    (h1 : ∀ j u, xs[j]? = some u → w.cell? ⟨g1, j, none⟩ = some u) (h2 : ∀ j u, xs[j]? = some u → w.cell? ⟨g2, j, none⟩ = some u) (hg1 : g1 < w.heap.size) (hg2 : g2 < w.heap.size) :
    Calls Ybad.prog 8 #[.agg #[.int .u32 code, .int .u8 (flg vendor m), .int .u32 vendor, .slice (some ⟨g1, 0, none⟩) n c1], .agg #[.int .u32 code, .int .u32 vendor, .bool m], .slice (some ⟨g2, 0, none⟩) n c2] w fun e w' =>
      e = .returned (.bool true) ∧ Below w.heap.size w w' := by
  have H1 := hide h1
  have H2 := hide h2
  have HX := hide hxs
  clear h1 h2 hxs
  obtain ⟨fl, hfl⟩ : ∃ fl, fl = flg vendor m := ⟨_, rfl⟩
  have HF : Hid (∀ W, Calls Ybad.prog 15 #[.agg #[.int .u32 code, .int .u32 vendor, .bool m]] W fun e w' => e = .returned (.int .u8 fl) ∧ w' = W.alloc (.cells #[.int .u32 code, .int .u32 vendor, .bool m] 25)) := by
    intro W; rw [hfl]; exact flags_any code vendor m W
  rw [← hfl]
  clear hfl
  go_enter Ybad.func8, Ybad.ntmps8
  go_wp2_with fail
  go_region_held3 (fun w' => w'.cell? ⟨w.heap.size, 0, none⟩ = some (.int .u32 code) ∧ w'.cell? ⟨w.heap.size, 1, none⟩ = some (.int .u8 fl) ∧ w'.cell? ⟨w.heap.size, 2, none⟩ = some (.int .u32 vendor) ∧ w'.cell? ⟨w.heap.size + 1, 0, none⟩ = some (.int .u32 code) ∧ w'.cell? ⟨w.heap.size + 1, 1, none⟩ = some (.int .u32 vendor) ∧ w'.cell? ⟨w.heap.size + 1, 2, none⟩ = some (.bool m))
    (simp [go_sem, World.cell?_alloc_past])
    (first
      | (go_at_call 15; refine (HF.out _).mono ?_; rintro e w' ⟨rfl, rfl⟩))
  go_wp2_with fail
  go_loopw [7] (fun i wr => ∃ k : Nat, k ≤ n ∧ i = .int .i64 k ∧ Hid (Below (w.heap.size + 1) (w.alloc (.cells #[.int .u32 code, .int .u8 fl, .int .u32 vendor, .slice (some ⟨g1, 0, none⟩) n c1] 29)) wr)) (fun i _ => n - (intOf i).toNat)
  case atStart =>
    exact ⟨0, by omega, rfl, (((Below.refl _ _).alloc (by simp) _).alloc (by simp) _).drew⟩
  case round =>
    obtain ⟨k, hk, rfl, hb⟩ := hrel
    by_cases hlt : k < n
    · obtain ⟨x, hx⟩ := HX.out k hlt
      have q1 : wr.cell? ⟨g1, k, none⟩ = some (.int .u8 x) := by
        rw [hb.out.cell (p := ⟨g1, k, none⟩) (by show g1 < _; omega), World.cell?_alloc_lt _ _ ⟨g1, k, none⟩ hg1]; exact H1.out k _ hx
      have q2 : wr.cell? ⟨g2, k, none⟩ = some (.int .u8 x) := by
        rw [hb.out.cell (p := ⟨g2, k, none⟩) (by show g2 < _; omega), World.cell?_alloc_lt _ _ ⟨g2, k, none⟩ hg2]; exact H2.out k _ hx
      have q3 : wr.cell? ⟨w.heap.size, 3, none⟩ = some (.slice (some ⟨g1, 0, none⟩) n c1) := by
        rw [hb.out.cell (p := ⟨w.heap.size, 3, none⟩) (by show w.heap.size < _; omega)]; simp
      have hlt' : (k : Int) < (n : Int) := by omega
      clear hx
      go_wp2
      go_quiet (fail)
      go_wp2
      go_roundw
      case rel => exact ⟨k + 1, by omega, by go_num, below_drewN hb.out nq⟩
      case measure => simp [intOf]; omega
    · go_wp2
      go_ret
      exact ⟨rfl, (below1 w _).trans (hb.out.mono (by omega))⟩
end Go.Proofs.YbulkbgqwDoor

import Derived.Test.YbulkbgqwDoorLaid
namespace Go.Proofs.YbulkbgqwDoor
open Go.ChangeShapes Go.WideShapes Go.ChangeAt Go.RowKit

theorem laid_six {W : World} {n4 n6 n0 : String} (h4 : Ybad.prog.globalNamed n4 = some 1) (h6 : Ybad.prog.globalNamed n6 = some 2) (h0 : Ybad.prog.globalNamed n0 = some 3) (h : laidMet Ybad.prog [(n4, Rows.laid_net_netip_z4), (n6, Rows.laid_net_netip_z6noz), (n0, Rows.laid_net_netip_z0)] W) :
    ∃ p4 p6 : Addr, W.cell? ⟨1, 0, none⟩ = some (.pointer (some p4)) ∧ W.cell? ⟨2, 0, none⟩ = some (.pointer (some p6)) ∧ W.cell? ⟨3, 0, none⟩ = some (.pointer none) ∧ p6 ≠ p4 ∧
      (∃ c t, W.heap[p4.block]? = some (.cells c t (0, 0))) ∧ (∃ c t, W.heap[p6.block]? = some (.cells c t (0, 0))) := by
  obtain ⟨ps, ⟨g, t, cs, fuel, p, q, hg, ht, hv, hd, ⟨g', t', cs', fuel', p', q', hg', ht', hv', hd', ⟨g'', t'', cs'', fuel'', p'', q'', hg'', ht'', hv'', hd'', _, _⟩, rfl⟩, rfl⟩, hnd, hrows⟩ := h
  obtain rfl := Option.some.inj (h4.symm.trans hg)
  obtain rfl := Option.some.inj (h6.symm.trans hg')
  obtain rfl := Option.some.inj (h0.symm.trans hg'')
  obtain rfl : (36 : TypeId) = t := Option.some.inj ((show (Ybad.prog.globals[1]?).map (·.type) = some 36 by kernel_rfl).symm.trans ht)
  obtain rfl : (36 : TypeId) = t' := Option.some.inj ((show (Ybad.prog.globals[2]?).map (·.type) = some 36 by kernel_rfl).symm.trans ht')
  obtain rfl : (36 : TypeId) = t'' := Option.some.inj ((show (Ybad.prog.globals[3]?).map (·.type) = some 36 by kernel_rfl).symm.trans ht'')
  obtain ⟨l⟩ := cs
  obtain ⟨l'⟩ := cs'
  obtain ⟨l''⟩ := cs''
  obtain ⟨a, q1, hc, rfl⟩ := handle_of_trod hd
  obtain ⟨a', q1', hc', rfl⟩ := handle_of_trod hd'
  have hc'' := nil_of_trod hd''
  simp only at hc hc' hc''
  subst hc hc' hc''
  refine ⟨a, a', by simpa using World.var?_cell hg hv 0, by simpa using World.var?_cell hg' hv' 0, by simpa using World.var?_cell hg'' hv'' 0, ?_, ?_, ?_⟩
  · intro h
    subst h
    have hm : ∀ x, x ∈ MemPlace.row ⟨1, 0, none⟩ 1 ++ (MemPlace.row a' 2 ++ q1) → x ∈ MemPlace.row ⟨2, 0, none⟩ 1 ++ (MemPlace.row a' 2 ++ q1') ++ q' → False := fun x h1 h2 => (List.nodup_append.1 hnd).2.2 x h1 x h2 rfl
    exact hm (.cell a'.block a'.off) (by simp [MemPlace.row]) (by simp [MemPlace.row])
  · exact (hrows a.block a.off (by simp [MemPlace.row])).1
  · exact (hrows a'.block a'.off (by simp [MemPlace.row])).1
end Go.Proofs.YbulkbgqwDoor

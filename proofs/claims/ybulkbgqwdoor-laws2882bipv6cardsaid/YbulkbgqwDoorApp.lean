import Derived.Test.YbulkbgqwDoorSlice
import Derived.Deep.AppendSrc
namespace Go.Proofs.YbulkbgqwDoor
open Go.RowKit

/-- The slice s has n elements, whose cells hold xs. -/
def Lies (w : World) (s : Value) (n : Nat) (xs : List Value) : Prop :=
  xs.length = n ∧ ((s = .slice none 0 0 ∧ n = 0) ∨ ∃ g c, s = .slice (some ⟨g, 0, none⟩) n c ∧ ∀ j u, xs[j]? = some u → w.cell? ((⟨g, 0, none⟩ : Addr).add j) = some u)

/-- append(v, v2...), v a slice that the call owns, not empty, as one step of a region that draws its order. -/
theorem step_append_two {ops : Array Oper} {o : Oper} {a : Act} {w : World} {K : Act → World → Prop} {Q : Exit → Act → World → Prop} {E : Prop} (hgd : o.guard = none) (s x : Operand)
    (hop : o.op = .call { callee := .builtin .append, args := #[s, x], argTypes := #[27, 27] }) (B : Nat) (v v2 : Value) (n m : Nat) (xs ys : List Value) (hs : a.eval s = v) (hx : a.eval x = v2)
    (hown : w.ownsRow B 5 1 v n xs) (hlies : Lies w v2 m ys) (h1 : ∀ u ∈ ys, u.oneCell' = true) (hn : 0 < n) (hnm : n + m ≤ 1000) (hB : B ≤ w.heap.size)
    (hK : ∀ v' w', w'.ownsRow B 5 1 v' (n + m) (xs ++ ys) → w.grownBy w' v.ownBlock → K (a.put o.dst v') w') :
    if Region.wanted o (yielded ops a.tmps) = true then Oper.wp Ybad.prog o a w K Q else E := by
  have hw : Region.wanted o (yielded ops a.tmps) = true := by simp [Region.wanted, hgd]
  rw [if_pos hw]
  obtain ⟨i0, hi, hz0, hz1, hz2⟩ := info_parts Ybad.info5
  obtain ⟨hl2, hc2⟩ := hlies
  rcases hc2 with ⟨rfl, rfl⟩ | ⟨g2, cap2, rfl, hcells⟩
  · obtain rfl : ys = [] := List.eq_nil_of_length_eq_zero hl2
    obtain ⟨hl, hc⟩ := id hown
    rcases hc with ⟨_, rfl⟩ | ⟨g, cap, cur, rfl, hb, hg, hnc, hcm, hsz, htk⟩
    · omega
    · have hrun := run_append_room_src (P := Ybad.prog) w 27 27 o.type 5 i0 Ybad.underlying27 hi g 0 n cap (.slice none 0 0) 0 [] (Src.ofNil w Ybad.underlying27 0) (by omega) (by simp) (by simp)
      unfold Oper.wp
      simp [execOp, hop, resolve, invoke, builtin, hs, hx, hrun, Result.andThen]
      exact hK (.slice (some ⟨g, 0, none⟩) n cap) w (by simpa using hown) (World.grownBy.refl _ _)
  · obtain ⟨v', w', hrun, r1, r2, _⟩ := run_append_own (P := Ybad.prog) w B 27 o.type 5 i0 (.int .u8 0) 1 1 Ybad.underlying27 hi hz0 hz1 hz2 rfl (by decide) v n xs hown ⟨g2, 0, none⟩ m cap2 ys (by omega) hcells h1 (by unfold maxLen; omega) (by omega) hB
    unfold Oper.wp
    simp [execOp, hop, resolve, invoke, builtin, hs, hx, hrun, Result.andThen]
    exact hK v' w' r1 r2
end Go.Proofs.YbulkbgqwDoor

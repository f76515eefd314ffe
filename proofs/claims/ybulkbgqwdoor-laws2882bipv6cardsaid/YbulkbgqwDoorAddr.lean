import Derived.Test.YbulkbgqwDoorApp
import Derived.Laws.CopyOwn
namespace Go.Proofs.YbulkbgqwDoor
open Go.RowKit

/-- One row has been written anew; nothing else has turned. -/
structure Touch (g : Nat) (w w' : World) : Prop where
  os : w'.os = w.os
  tape : w'.tape = w.tape
  output : w'.output = w.output
  size : w'.heap.size = w.heap.size
  other : ∀ k, k ≠ g → w'.heap[k]? = w.heap[k]?
theorem Touch.below {g B : Nat} {w0 w w' : World} (ht : Touch g w w') (hb : Below B w0 w) (hg : B ≤ g) : Below B w0 w' :=
  hb.trans ⟨ht.os, ht.tape, ht.output, Nat.le_of_eq ht.size.symm, fun k hk => ht.other k (by omega)⟩

/-- A whole struct stored into a known row; the world behind it a variable. -/
theorem wpList_store_letter {ops : Array Oper} {rest : List Oper} {o : Oper} {a : Act} {w : World} {Q : Exit → Act → World → Prop} (hgd : o.guard = none) (ty : TypeId) (x y : Operand) (ho : o.op = .store ty x y)
    (g : Nat) (cells : Array Value) (hx : a.eval x = .pointer (some ⟨g, 0, none⟩)) (hy : a.eval y = .agg cells)
    (t : TypeId) (old : Array Value) (hg : w.heap[g]? = some (.cells old t (0, 0))) (hi : (Ybad.prog.info? ty).map (·.size) = some cells.size)
    (hold : old.size = cells.size) (h1 : cells.all (·.oneCell') = true)
    (h : ∀ w2, Hid (w2.heap[g]? = some (.cells cells t (0, 0))) → Touch g w w2 → wpList Ybad.prog ops Q rest (a.put o.dst undef) w2) : wpList Ybad.prog ops Q (o :: rest) a w := by
  refine wpList_store_row hgd ty x y ho g cells hx hy t old hg hi hold h1 ?_
  exact h _ (setRow_heap _ _ _ _ t (0, 0) hg) ⟨rfl, rfl, rfl, by simp [World.setRow], fun k hk => setRow_other w g k cells hk⟩

/-- What three allocs laid, in a later world. -/
theorem rows3 {w w1 : World} {A B C : Obj} (hb : Below (((w.alloc A).alloc B).alloc C).heap.size (((w.alloc A).alloc B).alloc C) w1) :
    w1.heap[w.heap.size]? = some A ∧ w1.heap[w.heap.size + 1]? = some B ∧ w1.heap[w.heap.size + 1 + 1]? = some C ∧ w.heap.size + 3 ≤ w1.heap.size ∧ Below w.heap.size w w1 := by
  have hs : (((w.alloc A).alloc B).alloc C).heap.size = w.heap.size + 3 := by simp
  have hz := hb.size
  rw [hs] at hb hz
  refine ⟨(hb.block _ (by omega)).trans ?_, (hb.block _ (by omega)).trans ?_, (hb.block _ (by omega)).trans ?_, hz, (below3 w A B C).trans (hb.mono (by omega))⟩
  · show (((w.heap.push A).push B).push C)[w.heap.size]? = some A
    simp only [Array.getElem?_push, Array.size_push]
    rw [if_neg (by omega), if_neg (by omega), if_pos trivial]
  · show (((w.heap.push A).push B).push C)[w.heap.size + 1]? = some B
    simp only [Array.getElem?_push, Array.size_push]
    rw [if_neg (by omega), if_pos trivial]
  · show (((w.heap.push A).push B).push C)[w.heap.size + 1 + 1]? = some C
    simp only [Array.getElem?_push, Array.size_push]
    rw [if_pos trivial]

theorem ownsRow_later {w w' : World} {B : Nat} {v : Value} {n : Nat} {xs : List Value} (h : w.ownsRow B 5 1 v n xs) (hb : Below w.heap.size w w') : w'.ownsRow B 5 1 v n xs :=
  h.kept (row := none) ⟨hb.os, hb.tape, hb.output, hb.size, fun k hk _ => hb.block k hk⟩ (by cases v.ownBlock <;> simp)
theorem ownsRow_base {w : World} {B B' : Nat} {v : Value} {n : Nat} {xs : List Value} (h : w.ownsRow B 5 1 v n xs) (hB : B' ≤ B) : w.ownsRow B' 5 1 v n xs := by
  obtain ⟨hl, hc⟩ := h
  refine ⟨hl, ?_⟩
  rcases hc with h | ⟨g, cap, cur, h1, h2, h3⟩
  · exact .inl h
  · exact .inr ⟨g, cap, cur, h1, by omega, h3⟩
theorem ownsRow_form {w : World} {B : Nat} {v : Value} {n : Nat} {xs : List Value} (h : w.ownsRow B 5 1 v n xs) : ∃ p c, v = .slice p n c := by
  obtain ⟨hl, ⟨rfl, rfl⟩ | ⟨g, cap, cur, rfl, _⟩⟩ := h
  · exact ⟨_, _, rfl⟩
  · exact ⟨_, _, rfl⟩
theorem grown_below {w w' : World} {B : Nat} {row : Option Nat} (hg : w.grownBy w' row) (hB : B ≤ w.heap.size) (hr : ∀ k, row = some k → B ≤ k) : Below B w w' :=
  (Below.refl B w).grown hg hB hr

theorem ownsRow_setCell {w : World} {B : Nat} {v : Value} {n : Nat} {xs : List Value} (h : w.ownsRow B 5 1 v n xs) (a : Addr) (ha : a.block < B) (u : Value) : (w.setCell a u).ownsRow B 5 1 v n xs := by
  refine h.kept (row := some a.block) ⟨rfl, rfl, rfl, by simp [World.setCell], fun k _ hne => Below.heap_setCell w a u k (fun e => hne (by rw [e]))⟩ ?_
  cases hv : v.ownBlock with
  | none => exact .inl rfl
  | some k => exact .inr (fun e => by have := (h.lt k hv).1; have := Option.some.inj e; omega)

/-- The cells that Address's last statement loads. -/
def held (N : Nat) (code vendor : Int) (m : Bool) (hi lo : Int) (z : Option Addr) (w' : World) : Prop :=
  w'.cell? ⟨N, 0, none⟩ = some (.int .u32 code) ∧ w'.cell? ⟨N, 1, none⟩ = some (.int .u32 vendor) ∧ w'.cell? ⟨N, 2, none⟩ = some (.bool m) ∧
  w'.cell? ⟨N + 1, 0, none⟩ = some (.int .u64 hi) ∧ w'.cell? ⟨N + 1, 1, none⟩ = some (.int .u64 lo) ∧ w'.cell? ⟨N + 1, 2, none⟩ = some (.pointer z)
theorem held_later {N : Nat} {code vendor : Int} {m : Bool} {hi lo : Int} {z : Option Addr} {W W' : World} (h : held N code vendor m hi lo z W) (hb : Below (N + 2) W W') : held N code vendor m hi lo z W' := by
  obtain ⟨h1, h2, h3, h4, h5, h6⟩ := h
  exact ⟨(hb.cell (by simp)).trans h1, (hb.cell (by simp)).trans h2, (hb.cell (by simp)).trans h3, (hb.cell (by simp)).trans h4, (hb.cell (by simp)).trans h5, (hb.cell (by simp)).trans h6⟩

set_option maxHeartbeats 800000 in
theorem address_any (code vendor : Int) (m : Bool) (hi lo : Int) (z z' : Option Addr) (six : Bool) (n : Nat) (xs : List Value) (hX : ∀ u ∈ xs, u.oneCell' = true) (hn : n ≤ 100) (w : World)
    (hU : ∀ W, Below w.heap.size w W → Calls Ybad.prog 10 #[.agg #[.int .u64 hi, .int .u64 lo, .pointer z]] W fun e w' => e = .returned (.agg #[.int .u64 hi, .int .u64 lo, .pointer z']) ∧ Below W.heap.size W w')
    (hS : ∀ W, Below w.heap.size w W → Calls Ybad.prog 11 #[.agg #[.int .u64 hi, .int .u64 lo, .pointer z']] W fun e w' => e = .returned (.bool six) ∧ Below W.heap.size W w')
    (hA : ∀ W, Below w.heap.size w W → Calls Ybad.prog 14 #[.agg #[.int .u64 hi, .int .u64 lo, .pointer z']] W fun e w' => ∃ s, e = .returned s ∧ Lies w' s n xs ∧ Below W.heap.size W w') :
    Calls Ybad.prog 6 #[.agg #[.int .u32 code, .int .u32 vendor, .bool m], .agg #[.int .u64 hi, .int .u64 lo, .pointer z]] w fun e w' =>
      ∃ s, e = .returned (.agg #[.int .u32 code, .int .u8 (flg vendor m), .int .u32 vendor, s]) ∧ w'.ownsRow w.heap.size 5 1 s (2 + n) (.int .u8 0 :: .int .u8 (if six then 2 else 1) :: xs) ∧ Below w.heap.size w w' := by
  have HU := hide hU
  have HS := hide hS
  have HA := hide hA
  clear hU hS hA
  go_enter Ybad.func6, Ybad.ntmps6
  go_wp2_with fail
  refine (HU.out _ (below3 _ _ _ _)).mono ?_
  rintro e w1 ⟨rfl, hb1⟩
  obtain ⟨r0, r1, r2, hz1, hbw1⟩ := rows3 hb1
  have R0 := hide r0
  have R1 := hide r1
  have R2 := hide r2
  clear hb1 r0 r1 r2
  go_wp2_with (first
    | (refine wpList_store_letter rfl 38 (.tmp 3) (.tmp 7) rfl (w.heap.size + 1) #[.int .u64 hi, .int .u64 lo, .pointer z'] rfl rfl 38 _ R1.out (by kernel_rfl) rfl (by kernel_rfl) ?_; intro w2 hg2 ht2)
    | (refine wpList_load_row rfl 38 (.tmp 3) rfl (w.heap.size + 1) rfl 38 _ (0, 0) _ hg2.out Ybad.underlying38 rfl (by kernel_rfl) ?_))
  have hbw2 : Below w.heap.size w w2 := ht2.below hbw1 (by omega)
  refine (HS.out _ hbw2).mono ?_
  rintro e w3 ⟨rfl, hb3⟩
  have hz2 : w2.heap.size = w1.heap.size := ht2.size
  have hz3 : w.heap.size + 3 ≤ w3.heap.size := by have := hb3.size; omega
  have R0' := hide ((hb3.block w.heap.size (by omega)).trans ((ht2.other w.heap.size (by omega)).trans R0.out))
  have R1' := hide ((hb3.block (w.heap.size + 1) (by omega)).trans hg2.out)
  have R2' := hide ((hb3.block (w.heap.size + 1 + 1) (by omega)).trans ((ht2.other (w.heap.size + 1 + 1) (by omega)).trans R2.out))
  have hbw3 := hide (hbw2.trans (hb3.mono (by omega)))
  clear R0 R1 R2 hg2 ht2 hb3 hbw1 hbw2 hz1 hz2
  have hheld : Hid (held w.heap.size code vendor m hi lo z' w3) := by
    refine ⟨?_, ?_, ?_, ?_, ?_, ?_⟩
    · rw [cell_of_row _ _ _ _ _ _ R0'.out]; rfl
    · rw [cell_of_row _ _ _ _ _ _ R0'.out]; rfl
    · rw [cell_of_row _ _ _ _ _ _ R0'.out]; rfl
    · rw [cell_of_row _ _ _ _ _ _ R1'.out]; rfl
    · rw [cell_of_row _ _ _ _ _ _ R1'.out]; rfl
    · rw [cell_of_row _ _ _ _ _ _ R1'.out]; rfl
  have hheldD : Hid (held w.heap.size code vendor m hi lo z' w3.drew) := held_later hheld.out ((Below.refl _ _).drew)
  clear hheld
  cases six
  · go_wp2_with fail
    go_region_held3 (fun w' => w'.cell? ⟨w.heap.size, 0, none⟩ = some (.int .u32 code) ∧ w'.cell? ⟨w.heap.size, 1, none⟩ = some (.int .u32 vendor) ∧ w'.cell? ⟨w.heap.size, 2, none⟩ = some (.bool m) ∧ w'.cell? ⟨w.heap.size + 1, 0, none⟩ = some (.int .u64 hi) ∧ w'.cell? ⟨w.heap.size + 1, 1, none⟩ = some (.int .u64 lo) ∧ w'.cell? ⟨w.heap.size + 1, 2, none⟩ = some (.pointer z'))
      (first
        | exact held_later hheld7.out (((((Below.refl _ _).setCell (by simp) _).setCell (by simp) _).setCell (by simp) _).setCell (by simp) _)
        | exact hheld7.out | exact hheld6.out | exact hheld5.out | exact hheld4.out | exact hheldD.out)
      (first
        | (go_at_call 13; refine (append16 1 (by decide) (by decide) _).mono ?_; rintro e w4 ⟨s1, rfl, ho4, hb4⟩
           have hz4 : w3.heap.size ≤ w4.heap.size := hb4.size
           have hheld4 : Hid (held w.heap.size code vendor m hi lo z' w4) := held_later hheldD.out (hb4.mono (by show _ ≤ w3.heap.size; omega))
           have hbw4 : Hid (Below w.heap.size w w4) := hbw3.out.drew.trans (hb4.mono (by show _ ≤ w3.heap.size; omega))
           have R24 := hide ((hb4.block (w.heap.size + 1 + 1) (by show _ < w3.heap.size; omega)).trans R2'.out)
           have HO4 : Hid (w4.ownsRow w3.heap.size 5 1 s1 2 [.int .u8 0, .int .u8 1]) := ho4
           clear ho4 hb4)
        | (go_at_call 14; refine (HA.out _ hbw4.out).mono ?_; rintro e w5 ⟨s2, rfl, ho5, hb5⟩
           have hz5 : w4.heap.size ≤ w5.heap.size := hb5.size
           have hheld5 : Hid (held w.heap.size code vendor m hi lo z' w5) := held_later hheld4.out (hb5.mono (by omega))
           have hbw5 : Hid (Below w.heap.size w w5) := hbw4.out.trans (hb5.mono (by omega))
           have R25 := hide ((hb5.block (w.heap.size + 1 + 1) (by omega)).trans R24.out)
           have HO4' := hide (ownsRow_later HO4.out hb5)
           have HO5 := hide ho5
           clear ho5 hb5 R24 HO4)
        | (refine step_append_two rfl (.tmp 13) (.tmp 15) rfl w3.heap.size s1 s2 2 n _ xs rfl rfl HO4'.out HO5.out hX (by decide) (by omega) (by omega) ?_; intro v6 w6 ho6 hg6
           obtain ⟨p6, c6, rfl⟩ := ownsRow_form ho6
           have hb6 : Below w3.heap.size w5 w6 := grown_below hg6 (by omega) (fun k hk => (HO4'.out.lt k hk).1)
           have hz6 : w5.heap.size ≤ w6.heap.size := hb6.size
           have hheld6 : Hid (held w.heap.size code vendor m hi lo z' w6) := held_later hheld5.out (hb6.mono (by omega))
           have hbw6 : Hid (Below w.heap.size w w6) := hbw5.out.trans (hb6.mono (by omega))
           have R26 := hide ((hb6.block (w.heap.size + 1 + 1) (by omega)).trans R25.out)
           have HO6 := hide ho6
           clear ho6 hg6 hb6 R25 HO4' HO5)
        | (go_at_call 12; refine (new_any code vendor m p6 (2 + n) c6 _).mono ?_; rintro e w7 ⟨rfl, hb7⟩
           have hz7 : w6.heap.size ≤ w7.heap.size := hb7.size
           have hheld7 : Hid (held w.heap.size code vendor m hi lo z' w7) := held_later hheld6.out (hb7.mono (by omega))
           have hbw7 : Hid (Below w.heap.size w w7) := hbw6.out.trans (hb7.mono (by omega))
           have r27 := (hb7.block (w.heap.size + 1 + 1) (by omega)).trans R26.out
           have k0 : w7.cell? ⟨w.heap.size + 1 + 1, 0, none⟩ = some (.int .u32 0) := by rw [cell_of_row _ _ _ _ _ _ r27]; rfl
           have k1 : w7.cell? ⟨w.heap.size + 1 + 1, 1, none⟩ = some (.int .u8 0) := by rw [cell_of_row _ _ _ _ _ _ r27]; rfl
           have k2 : w7.cell? ⟨w.heap.size + 1 + 1, 2, none⟩ = some (.int .u32 0) := by rw [cell_of_row _ _ _ _ _ _ r27]; rfl
           have k3 : w7.cell? ⟨w.heap.size + 1 + 1, 3, none⟩ = some (.slice none 0 0) := by rw [cell_of_row _ _ _ _ _ _ r27]; rfl
           have kf : ∀ j, w7.frozen? ⟨w.heap.size + 1 + 1, j, none⟩ = false := fun j => by simp [World.frozen?, r27]
           have HO7 := hide (ownsRow_later HO6.out hb7)
           clear r27 R26 HO6 hb7))
    go_wp2
    refine bodyPost_ret (v := .agg #[.int .u32 code, .int .u8 (flg vendor m), .int .u32 vendor, .slice p6 (2 + n) c6]) (by simp [results, Ybad.results6, go_sem, k0, k1, k2, k3]) rfl ⟨_, rfl, ?_, ?_⟩
    · exact ownsRow_base (ownsRow_setCell (ownsRow_setCell (ownsRow_setCell (ownsRow_setCell HO7.out _ (by show w.heap.size + 1 + 1 < _; omega) _) _ (by show w.heap.size + 1 + 1 < _; omega) _) _ (by show w.heap.size + 1 + 1 < _; omega) _) _ (by show w.heap.size + 1 + 1 < _; omega) _) (by omega)
    · exact (((hbw7.out.setCell (by show _ ≤ w.heap.size + 1 + 1; omega) _).setCell (by show _ ≤ w.heap.size + 1 + 1; omega) _).setCell (by show _ ≤ w.heap.size + 1 + 1; omega) _).setCell (by show _ ≤ w.heap.size + 1 + 1; omega) _
  · go_wp2_with fail
    go_region_held3 (fun w' => w'.cell? ⟨w.heap.size, 0, none⟩ = some (.int .u32 code) ∧ w'.cell? ⟨w.heap.size, 1, none⟩ = some (.int .u32 vendor) ∧ w'.cell? ⟨w.heap.size, 2, none⟩ = some (.bool m) ∧ w'.cell? ⟨w.heap.size + 1, 0, none⟩ = some (.int .u64 hi) ∧ w'.cell? ⟨w.heap.size + 1, 1, none⟩ = some (.int .u64 lo) ∧ w'.cell? ⟨w.heap.size + 1, 2, none⟩ = some (.pointer z'))
      (first
        | exact held_later hheld7.out (((((Below.refl _ _).setCell (by simp) _).setCell (by simp) _).setCell (by simp) _).setCell (by simp) _)
        | exact hheld7.out | exact hheld6.out | exact hheld5.out | exact hheld4.out | exact hheldD.out)
      (first
        | (go_at_call 13; refine (append16 2 (by decide) (by decide) _).mono ?_; rintro e w4 ⟨s1, rfl, ho4, hb4⟩
           have hz4 : w3.heap.size ≤ w4.heap.size := hb4.size
           have hheld4 : Hid (held w.heap.size code vendor m hi lo z' w4) := held_later hheldD.out (hb4.mono (by show _ ≤ w3.heap.size; omega))
           have hbw4 : Hid (Below w.heap.size w w4) := hbw3.out.drew.trans (hb4.mono (by show _ ≤ w3.heap.size; omega))
           have R24 := hide ((hb4.block (w.heap.size + 1 + 1) (by show _ < w3.heap.size; omega)).trans R2'.out)
           have HO4 : Hid (w4.ownsRow w3.heap.size 5 1 s1 2 [.int .u8 0, .int .u8 2]) := ho4
           clear ho4 hb4)
        | (go_at_call 14; refine (HA.out _ hbw4.out).mono ?_; rintro e w5 ⟨s2, rfl, ho5, hb5⟩
           have hz5 : w4.heap.size ≤ w5.heap.size := hb5.size
           have hheld5 : Hid (held w.heap.size code vendor m hi lo z' w5) := held_later hheld4.out (hb5.mono (by omega))
           have hbw5 : Hid (Below w.heap.size w w5) := hbw4.out.trans (hb5.mono (by omega))
           have R25 := hide ((hb5.block (w.heap.size + 1 + 1) (by omega)).trans R24.out)
           have HO4' := hide (ownsRow_later HO4.out hb5)
           have HO5 := hide ho5
           clear ho5 hb5 R24 HO4)
        | (refine step_append_two rfl (.tmp 13) (.tmp 15) rfl w3.heap.size s1 s2 2 n _ xs rfl rfl HO4'.out HO5.out hX (by decide) (by omega) (by omega) ?_; intro v6 w6 ho6 hg6
           obtain ⟨p6, c6, rfl⟩ := ownsRow_form ho6
           have hb6 : Below w3.heap.size w5 w6 := grown_below hg6 (by omega) (fun k hk => (HO4'.out.lt k hk).1)
           have hz6 : w5.heap.size ≤ w6.heap.size := hb6.size
           have hheld6 : Hid (held w.heap.size code vendor m hi lo z' w6) := held_later hheld5.out (hb6.mono (by omega))
           have hbw6 : Hid (Below w.heap.size w w6) := hbw5.out.trans (hb6.mono (by omega))
           have R26 := hide ((hb6.block (w.heap.size + 1 + 1) (by omega)).trans R25.out)
           have HO6 := hide ho6
           clear ho6 hg6 hb6 R25 HO4' HO5)
        | (go_at_call 12; refine (new_any code vendor m p6 (2 + n) c6 _).mono ?_; rintro e w7 ⟨rfl, hb7⟩
           have hz7 : w6.heap.size ≤ w7.heap.size := hb7.size
           have hheld7 : Hid (held w.heap.size code vendor m hi lo z' w7) := held_later hheld6.out (hb7.mono (by omega))
           have hbw7 : Hid (Below w.heap.size w w7) := hbw6.out.trans (hb7.mono (by omega))
           have r27 := (hb7.block (w.heap.size + 1 + 1) (by omega)).trans R26.out
           have k0 : w7.cell? ⟨w.heap.size + 1 + 1, 0, none⟩ = some (.int .u32 0) := by rw [cell_of_row _ _ _ _ _ _ r27]; rfl
           have k1 : w7.cell? ⟨w.heap.size + 1 + 1, 1, none⟩ = some (.int .u8 0) := by rw [cell_of_row _ _ _ _ _ _ r27]; rfl
           have k2 : w7.cell? ⟨w.heap.size + 1 + 1, 2, none⟩ = some (.int .u32 0) := by rw [cell_of_row _ _ _ _ _ _ r27]; rfl
           have k3 : w7.cell? ⟨w.heap.size + 1 + 1, 3, none⟩ = some (.slice none 0 0) := by rw [cell_of_row _ _ _ _ _ _ r27]; rfl
           have kf : ∀ j, w7.frozen? ⟨w.heap.size + 1 + 1, j, none⟩ = false := fun j => by simp [World.frozen?, r27]
           have HO7 := hide (ownsRow_later HO6.out hb7)
           clear r27 R26 HO6 hb7))
    go_wp2
    refine bodyPost_ret (v := .agg #[.int .u32 code, .int .u8 (flg vendor m), .int .u32 vendor, .slice p6 (2 + n) c6]) (by simp [results, Ybad.results6, go_sem, k0, k1, k2, k3]) rfl ⟨_, rfl, ?_, ?_⟩
    · exact ownsRow_base (ownsRow_setCell (ownsRow_setCell (ownsRow_setCell (ownsRow_setCell HO7.out _ (by show w.heap.size + 1 + 1 < _; omega) _) _ (by show w.heap.size + 1 + 1 < _; omega) _) _ (by show w.heap.size + 1 + 1 < _; omega) _) _ (by show w.heap.size + 1 + 1 < _; omega) _) (by omega)
    · exact (((hbw7.out.setCell (by show _ ≤ w.heap.size + 1 + 1; omega) _).setCell (by show _ ≤ w.heap.size + 1 + 1; omega) _).setCell (by show _ ≤ w.heap.size + 1 + 1; omega) _).setCell (by show _ ≤ w.heap.size + 1 + 1; omega) _
end Go.Proofs.YbulkbgqwDoor

/-
  No cell of these rows narrows 'for every input' (looked for: loops, veiled, ifaces, maps, wideKeys, modest, calm, conditions, laid).
  DERIVED. THE GIVEN ROWS OF THIS SEAT. 2 by the template 'for every input the law returns true; each argument reads behind the call as it read before'; 0 by the template 'total and deterministic' (their statements: YbulkbgqwTotals.lean).
  GIVEN WITH THE SEED: the statements are not yours to turn. If you find one false, say at which input.
  Laid BY PROGRAM, IN A SANDBOX (cutbox-rows.mjs): the forced cells as the released guide's own fill.sh prints them over the translation bacaa2b8bfe076df… (all of the seat's roots in one cut). By AI agents, Wed Nov 11 2026. No macro, syntax, notation, axiom, sorry.
-/
import Derived.Test.YbulkbgqwChecked
import GoSem.Claim
import GoSem.ClaimJoined
import GoSem.ClaimMapViews
import Derived.JoinedTies
import Derived.KernelRfl
namespace Go.Proofs.Ybulkbgqw
/- THE CELL 'sum', in the pinned program and in every row, IS THE sha256 OF THE DUMP (.gsa) THAT YbulkbgqwProg.lean LOADS. Nothing in Lean hashes anything: it is a label: what it is worth is what the hold of that sum in a sandbox is worth. -/
noncomputable def Yba.pinned : Pinned := { name := "ybulkbgqw", sum := "bacaa2b8bfe076dfdb8a1d7a0421e552d932780086031f05299f77d02593312a", checked := Yba.checked }
namespace Rows
def none {H : Type} : Left H := { results := [], args := [] }

/-- 'milenage.LawS2882AModel': WHATEVER THE INPUT: true; the input reads as it did. -/
def lawS2882AModelSpec : ChangeSpec := { name := "lawS2882AModel", fn := fun _ => fun
  | [d1, d2] => { results := [.lit (.bool true)], args := [d1, d2] }
  | _ => none }
def lawS2882AModelRow : OpenClaim := { program := "ybulkbgqw", sum := "bacaa2b8bfe076dfdb8a1d7a0421e552d932780086031f05299f77d02593312a", func := "example.com/keystrap/keystrap/milenage.LawS2882AModel", spec := "lawS2882AModel", apart := false }
def LawS2882AModelSaid : Prop := lawS2882AModelRow.holds Yba.pinned (OpenSpec.ofChange lawS2882AModelSpec)

/-- ITS FALSE NEIGHBOUR: 'it returns false'. Refute it at one input. -/
def lawS2882AModelWrong : ChangeSpec := { name := "lawS2882AModel", fn := fun _ => fun
  | [d1, d2] => { results := [.lit (.bool false)], args := [d1, d2] }
  | _ => none }
def LawS2882AModelWrongFalsely : Prop := lawS2882AModelRow.holds Yba.pinned (OpenSpec.ofChange lawS2882AModelWrong)

/-- 'milenage.LawS2882ARoundTrip': WHATEVER THE INPUT: true; the input reads as it did. -/
def lawS2882ARoundTripSpec : ChangeSpec := { name := "lawS2882ARoundTrip", fn := fun _ => fun
  | [d1, d2] => { results := [.lit (.bool true)], args := [d1, d2] }
  | _ => none }
def lawS2882ARoundTripRow : OpenClaim := { program := "ybulkbgqw", sum := "bacaa2b8bfe076dfdb8a1d7a0421e552d932780086031f05299f77d02593312a", func := "example.com/keystrap/keystrap/milenage.LawS2882ARoundTrip", spec := "lawS2882ARoundTrip", apart := false }
def LawS2882ARoundTripSaid : Prop := lawS2882ARoundTripRow.holds Yba.pinned (OpenSpec.ofChange lawS2882ARoundTripSpec)

/-- ITS FALSE NEIGHBOUR: 'it returns false'. Refute it at one input. -/
def lawS2882ARoundTripWrong : ChangeSpec := { name := "lawS2882ARoundTrip", fn := fun _ => fun
  | [d1, d2] => { results := [.lit (.bool false)], args := [d1, d2] }
  | _ => none }
def LawS2882ARoundTripWrongFalsely : Prop := lawS2882ARoundTripRow.holds Yba.pinned (OpenSpec.ofChange lawS2882ARoundTripWrong)

end Rows
end Go.Proofs.Ybulkbgqw

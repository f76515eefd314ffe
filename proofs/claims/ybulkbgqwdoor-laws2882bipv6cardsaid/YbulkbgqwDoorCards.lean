/-
  DERIVED. GIVEN WITH THE SEED: THE CARDS: each row of YbulkbgqwDoorRows.lean that lists a variable, with what it lists TIED to the program's text (the seventh form; the later family's looks); each row that meets fmt, with fmt's text TOLD by the authors' own Lean function (tested against real Go, not proved from fmt's source: count such statements apart). THE CARD IS WHAT COUNTS. Prove the row's statement (the work); the ties are given (YbulkbgqwDoorTie.lean); close each card by the builder's one call (the guide's Derived/Test/ToyasCard.lean, 'card_holds'). Laid BY PROGRAM, IN A SANDBOX (cutbox-door.mjs). By AI agents, Wed Nov 11 2026. No macro, syntax, notation, axiom, sorry.
-/
import Derived.Test.YbulkbgqwDoorRows
import GoSem.ClaimSeven
namespace Go.Proofs.YbulkbgqwDoor
namespace Rows

/-- THE TIED CARD OF 'diameter.LawS2882BIPv4'. -/
def lawS2882BIPv4Card : Claim7 := { stood := { row := lawS2882BIPv4Row, standIns := [], harness := (true, "1d8eb8b4e67967b3313c391438564a8ea2ea0183c11f9842ba0d698902757fee"), looks := false }, kinds := [], alts := [], laidByText := true, laidKinds := [.called, .zero], laidTests := true, laidLooks := .later }
def LawS2882BIPv4CardSaid : Prop := Claim7.holds Ybad.pinned (.plain (OpenSpec.ofChange lawS2882BIPv4Spec)) lawS2882BIPv4Card

/-- THE TIED CARD OF 'diameter.LawS2882BIPv6'. -/
def lawS2882BIPv6Card : Claim7 := { stood := { row := lawS2882BIPv6Row, standIns := [], harness := (true, "1d8eb8b4e67967b3313c391438564a8ea2ea0183c11f9842ba0d698902757fee"), looks := false }, kinds := [], alts := [], laidByText := true, laidKinds := [.called, .called, .zero], laidTests := true, laidLooks := .later }
def LawS2882BIPv6CardSaid : Prop := Claim7.holds Ybad.pinned (.plain (OpenSpec.ofChange lawS2882BIPv6Spec)) lawS2882BIPv6Card

/-- THE TIED CARD OF 'diameter.LawS2882BZero'. -/
def lawS2882BZeroCard : Claim7 := { stood := { row := lawS2882BZeroRow, standIns := [], harness := (true, "1d8eb8b4e67967b3313c391438564a8ea2ea0183c11f9842ba0d698902757fee"), looks := false }, kinds := [], alts := [], laidByText := true, laidKinds := [.called, .zero], laidTests := true, laidLooks := .later }
def LawS2882BZeroCardSaid : Prop := Claim7.holds Ybad.pinned (.plain (OpenSpec.ofChange lawS2882BZeroSpec)) lawS2882BZeroCard
end Rows
end Go.Proofs.YbulkbgqwDoor

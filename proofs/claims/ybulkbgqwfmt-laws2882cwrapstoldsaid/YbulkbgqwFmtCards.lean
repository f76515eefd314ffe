/-
  DERIVED. GIVEN WITH THE SEED: THE CARDS: each row of YbulkbgqwFmtRows.lean that lists a variable, with what it lists TIED to the program's text (the seventh form; the later family's looks); each row that meets fmt, with fmt's text TOLD by the authors' own Lean function (tested against real Go, not proved from fmt's source: count such statements apart). THE CARD IS WHAT COUNTS. Prove the row's statement (the work); the ties are given (YbulkbgqwFmtTie.lean); close each card by the builder's one call (the guide's Derived/Test/ToyasCard.lean, 'card_holds'). Laid BY PROGRAM, IN A SANDBOX (cutbox-door.mjs). By AI agents, Wed Nov 11 2026. No macro, syntax, notation, axiom, sorry.
-/
import Derived.Test.YbulkbgqwFmtRows
import GoSem.ClaimSeven
namespace Go.Proofs.YbulkbgqwFmt
namespace Rows

/-- THE TOLD AND TIED CARD OF 'diameter.LawS2882CEndKept'. -/
def lawS2882CEndKeptCard : Claim7 := { stood := { row := lawS2882CEndKeptRow, standIns := [], harness := (true, "a53909431147685f6240c01a50ba207478a7eaa7d8959e1a4dec6bb35aeb0600"), looks := true }, told := true, laidByText := true, laidKinds := [.sentinel, .sentinel], laidTests := true, laidLooks := .later, goes := false }
def LawS2882CEndKeptToldSaid : Prop := Claim7.holds Ybaf.pinned (.plain (OpenSpec.ofChange lawS2882CEndKeptSpec)) lawS2882CEndKeptCard
/-- ITS FALSE NEIGHBOUR. Refute it at one input. -/
def LawS2882CEndKeptToldWrongFalsely : Prop := Claim7.holds Ybaf.pinned (.plain (OpenSpec.ofChange lawS2882CEndKeptWrong)) lawS2882CEndKeptCard

/-- THE TOLD AND TIED CARD OF 'diameter.LawS2882CWraps'. -/
def lawS2882CWrapsCard : Claim7 := { stood := { row := lawS2882CWrapsRow, standIns := [], harness := (true, "a53909431147685f6240c01a50ba207478a7eaa7d8959e1a4dec6bb35aeb0600"), looks := true }, told := true, laidByText := true, laidKinds := [.handle, .sentinel, .sentinel], laidTests := true, laidLooks := .later, goes := false }
def LawS2882CWrapsToldSaid : Prop := Claim7.holds Ybaf.pinned (.plain (OpenSpec.ofChange lawS2882CWrapsSpec)) lawS2882CWrapsCard
/-- ITS FALSE NEIGHBOUR. Refute it at one input. -/
def LawS2882CWrapsToldWrongFalsely : Prop := Claim7.holds Ybaf.pinned (.plain (OpenSpec.ofChange lawS2882CWrapsWrong)) lawS2882CWrapsCard

/-- THE TOLD AND TIED CARD OF 'diameter.LawS2882CNilIn'. -/
def lawS2882CNilInCard : Claim7 := { stood := { row := lawS2882CNilInRow, standIns := [], harness := (true, "a53909431147685f6240c01a50ba207478a7eaa7d8959e1a4dec6bb35aeb0600"), looks := true }, told := true, laidByText := true, laidKinds := [.sentinel, .sentinel], laidTests := true, laidLooks := .later, goes := false }
def LawS2882CNilInToldSaid : Prop := Claim7.holds Ybaf.pinned (.plain (OpenSpec.ofChange lawS2882CNilInSpec)) lawS2882CNilInCard
/-- ITS FALSE NEIGHBOUR. Refute it at one input. -/
def LawS2882CNilInToldWrongFalsely : Prop := Claim7.holds Ybaf.pinned (.plain (OpenSpec.ofChange lawS2882CNilInWrong)) lawS2882CNilInCard
end Rows
end Go.Proofs.YbulkbgqwFmt

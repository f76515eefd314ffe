/-
  NARROWER THAN 'FOR EVERY INPUT', by the rows' own cells (each row's printed sentence says how): LawS2882CEndKept: laid · LawS2882CWraps: laid · LawS2882CNilIn: laid.
  DERIVED. THE GIVEN ROWS OF THIS SEAT. 3 by the template 'for every input the law returns true; each argument reads behind the call as it read before'; 0 by the template 'total and deterministic' (their statements: YbulkbgqwFmtTotals.lean).
  GIVEN WITH THE SEED: the statements are not yours to turn. If you find one false, say at which input.
  Laid BY PROGRAM, IN A SANDBOX (cutbox-rows.mjs): the forced cells as the released guide's own fill.sh prints them over the translation 95f31297f7332adf… (all of the seat's roots in one cut). By AI agents, Wed Nov 11 2026. No macro, syntax, notation, axiom, sorry.
-/
import Derived.Test.YbulkbgqwFmtChecked
import GoSem.Claim
import GoSem.ClaimJoined
import GoSem.ClaimMapViews
import Derived.JoinedTies
import Derived.KernelRfl
namespace Go.Proofs.YbulkbgqwFmt
/- THE CELL 'sum', in the pinned program and in every row, IS THE sha256 OF THE DUMP (.gsa) THAT YbulkbgqwFmtProg.lean LOADS. Nothing in Lean hashes anything: it is a label: what it is worth is what the hold of that sum in a sandbox is worth. -/
noncomputable def Ybaf.pinned : Pinned := { name := "ybulkbgqwfmt", sum := "95f31297f7332adf96ab0e5335b8f27daec45ec4833642a56c83d5d3adbb7c90", checked := Ybaf.checked }
namespace Rows
def none {H : Type} : Left H := { results := [], args := [] }

/- WHAT THE LISTED PACKAGE-LEVEL VARIABLES READ AS WHEN THE CALL BEGINS. Each datum BY PROGRAM (the guide's laid-datum.mjs) off the statement by which the dump's own 'gosem.cut.vars' lays the variable. In a bare row this is a premise. The card (YbulkbgqwFmtCards.lean) ties it to the program's text. -/
def laid_io_EOF {H : Type} : DataW H := .iface "*errors.errorString" (.ptr (.agg [.lit (.string [69, 79, 70])]))
def laid_io_ErrUnexpectedEOF {H : Type} : DataW H := .iface "*errors.errorString" (.ptr (.agg [.lit (.string [117, 110, 101, 120, 112, 101, 99, 116, 101, 100, 32, 69, 79, 70])]))
def laid_errors_errorType {H : Type} : DataW H := .iface "internal/reflectlite.rtype" (.agg [.ptr (.lit (.string [101, 114, 114, 111, 114]))])

/-- 'diameter.LawS2882CEndKept': WHATEVER THE INPUT: true; the input reads as it did. -/
def lawS2882CEndKeptSpec : ChangeSpec := { name := "lawS2882CEndKept", fn := fun _ => fun
  | [d] => { results := [.lit (.bool true)], args := [d] }
  | _ => none }
def lawS2882CEndKeptRow : OpenClaim := { program := "ybulkbgqwfmt", sum := "95f31297f7332adf96ab0e5335b8f27daec45ec4833642a56c83d5d3adbb7c90", func := "example.com/keystrap/keystrap/diameter.LawS2882CEndKept", spec := "lawS2882CEndKept", stops := ["fmt.errorf, its operands' methods called"], inPlace := ["fmt.errorf"], unfollowed := true, recurses := true, named := ["io.EOF", "io.ErrUnexpectedEOF"], apart := false, laid := [("io.EOF", laid_io_EOF), ("io.ErrUnexpectedEOF", laid_io_ErrUnexpectedEOF)] }
/-- NO THEOREM (fmt's text is open here; it may be false): for the released tool's asking of the row's closed facts alone. THE STATEMENT IS 'LawS2882CEndKeptToldSaid' (YbulkbgqwFmtCards.lean). -/
def LawS2882CEndKeptFormAsk : Prop := lawS2882CEndKeptRow.holds Ybaf.pinned (OpenSpec.ofChange lawS2882CEndKeptSpec)

/-- ITS FALSE NEIGHBOUR: 'it returns false'. Refute it at one input. -/
def lawS2882CEndKeptWrong : ChangeSpec := { name := "lawS2882CEndKept", fn := fun _ => fun
  | [d] => { results := [.lit (.bool false)], args := [d] }
  | _ => none }
def LawS2882CEndKeptWrongFormAsk : Prop := lawS2882CEndKeptRow.holds Ybaf.pinned (OpenSpec.ofChange lawS2882CEndKeptWrong)

/-- 'diameter.LawS2882CWraps': WHATEVER THE INPUT: true; the input reads as it did. -/
def lawS2882CWrapsSpec : ChangeSpec := { name := "lawS2882CWraps", fn := fun _ => fun
  | [d1, d2] => { results := [.lit (.bool true)], args := [d1, d2] }
  | _ => none }
def lawS2882CWrapsRow : OpenClaim := { program := "ybulkbgqwfmt", sum := "95f31297f7332adf96ab0e5335b8f27daec45ec4833642a56c83d5d3adbb7c90", func := "example.com/keystrap/keystrap/diameter.LawS2882CWraps", spec := "lawS2882CWraps", stops := ["fmt.errorf, its operands' methods called"], inPlace := ["fmt.errorf", "internal/reflectlite.TypeOf", "internal/reflectlite.ValueOf", "(internal/reflectlite.Value).Type", "(internal/reflectlite.Value).IsNil", "(internal/reflectlite.Value).Elem", "(internal/reflectlite.Value).Set"], unfollowed := true, recurses := true, named := ["io.EOF", "io.ErrUnexpectedEOF", "errors.errorType"], apart := false, laid := [("errors.errorType", laid_errors_errorType), ("io.EOF", laid_io_EOF), ("io.ErrUnexpectedEOF", laid_io_ErrUnexpectedEOF)] }
/-- NO THEOREM (fmt's text is open here; it may be false): for the released tool's asking of the row's closed facts alone. THE STATEMENT IS 'LawS2882CWrapsToldSaid' (YbulkbgqwFmtCards.lean). -/
def LawS2882CWrapsFormAsk : Prop := lawS2882CWrapsRow.holds Ybaf.pinned (OpenSpec.ofChange lawS2882CWrapsSpec)

/-- ITS FALSE NEIGHBOUR: 'it returns false'. Refute it at one input. -/
def lawS2882CWrapsWrong : ChangeSpec := { name := "lawS2882CWraps", fn := fun _ => fun
  | [d1, d2] => { results := [.lit (.bool false)], args := [d1, d2] }
  | _ => none }
def LawS2882CWrapsWrongFormAsk : Prop := lawS2882CWrapsRow.holds Ybaf.pinned (OpenSpec.ofChange lawS2882CWrapsWrong)

/-- 'diameter.LawS2882CNilIn': WHATEVER THE INPUT: true; the input reads as it did. -/
def lawS2882CNilInSpec : ChangeSpec := { name := "lawS2882CNilIn", fn := fun _ => fun
  | [d] => { results := [.lit (.bool true)], args := [d] }
  | _ => none }
def lawS2882CNilInRow : OpenClaim := { program := "ybulkbgqwfmt", sum := "95f31297f7332adf96ab0e5335b8f27daec45ec4833642a56c83d5d3adbb7c90", func := "example.com/keystrap/keystrap/diameter.LawS2882CNilIn", spec := "lawS2882CNilIn", stops := ["fmt.errorf, its operands' methods called"], inPlace := ["fmt.errorf"], unfollowed := true, recurses := true, named := ["io.EOF", "io.ErrUnexpectedEOF"], apart := false, laid := [("io.EOF", laid_io_EOF), ("io.ErrUnexpectedEOF", laid_io_ErrUnexpectedEOF)] }
/-- NO THEOREM (fmt's text is open here; it may be false): for the released tool's asking of the row's closed facts alone. THE STATEMENT IS 'LawS2882CNilInToldSaid' (YbulkbgqwFmtCards.lean). -/
def LawS2882CNilInFormAsk : Prop := lawS2882CNilInRow.holds Ybaf.pinned (OpenSpec.ofChange lawS2882CNilInSpec)

/-- ITS FALSE NEIGHBOUR: 'it returns false'. Refute it at one input. -/
def lawS2882CNilInWrong : ChangeSpec := { name := "lawS2882CNilIn", fn := fun _ => fun
  | [d] => { results := [.lit (.bool false)], args := [d] }
  | _ => none }
def LawS2882CNilInWrongFormAsk : Prop := lawS2882CNilInRow.holds Ybaf.pinned (OpenSpec.ofChange lawS2882CNilInWrong)

end Rows
end Go.Proofs.YbulkbgqwFmt

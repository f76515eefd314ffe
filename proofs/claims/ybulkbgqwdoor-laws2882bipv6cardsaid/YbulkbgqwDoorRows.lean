/-
  NARROWER THAN 'FOR EVERY INPUT', by the rows' own cells (each row's printed sentence says how): LawS2882BIPv4: laid · LawS2882BIPv6: laid · LawS2882BZero: laid.
  DERIVED. THE GIVEN ROWS OF THIS SEAT. 3 by the template 'for every input the law returns true; each argument reads behind the call as it read before'; 0 by the template 'total and deterministic' (their statements: YbulkbgqwDoorTotals.lean).
  GIVEN WITH THE SEED: the statements are not yours to turn. If you find one false, say at which input.
  Laid BY PROGRAM, IN A SANDBOX (cutbox-rows.mjs): the forced cells as the released guide's own fill.sh prints them over the translation ec4d49e3fcdc0c24… (all of the seat's roots in one cut). By AI agents, Wed Nov 11 2026. No macro, syntax, notation, axiom, sorry.
-/
import Derived.Test.YbulkbgqwDoorChecked
import GoSem.Claim
import GoSem.ClaimJoined
import GoSem.ClaimMapViews
import Derived.JoinedTies
import Derived.KernelRfl
namespace Go.Proofs.YbulkbgqwDoor
/- THE CELL 'sum', in the pinned program and in every row, IS THE sha256 OF THE DUMP (.gsa) THAT YbulkbgqwDoorProg.lean LOADS. Nothing in Lean hashes anything: it is a label: what it is worth is what the hold of that sum in a sandbox is worth. -/
noncomputable def Ybad.pinned : Pinned := { name := "ybulkbgqwdoor", sum := "ec4d49e3fcdc0c249a7d913062a31519284c9d622c5d50346d033e3bb565ffdf", checked := Ybad.checked }
namespace Rows
def none {H : Type} : Left H := { results := [], args := [] }

/- WHAT THE LISTED PACKAGE-LEVEL VARIABLES READ AS WHEN THE CALL BEGINS. Each datum BY PROGRAM (the guide's laid-datum.mjs) off the statement by which the dump's own 'gosem.cut.vars' lays the variable. In a bare row this is a premise. The card (YbulkbgqwDoorCards.lean) ties it to the program's text. -/
def laid_net_netip_z4 {H : Type} : DataW H := .agg [.ptr (.agg [.lit (.bool false), .lit (.string [])])]
def laid_net_netip_z0 {H : Type} : DataW H := .agg [.nil]
def laid_net_netip_z6noz {H : Type} : DataW H := .agg [.ptr (.agg [.lit (.bool true), .lit (.string [])])]

/-- 'diameter.LawS2882BIPv4': WHATEVER THE INPUT: true; the input reads as it did. -/
def lawS2882BIPv4Spec : ChangeSpec := { name := "lawS2882BIPv4", fn := fun _ => fun
  | [d1, d2, d3, d4] => { results := [.lit (.bool true)], args := [d1, d2, d3, d4] }
  | _ => none }
def lawS2882BIPv4Row : OpenClaim := { program := "ybulkbgqwdoor", sum := "ec4d49e3fcdc0c249a7d913062a31519284c9d622c5d50346d033e3bb565ffdf", func := "example.com/keystrap/keystrap/diameter.LawS2882BIPv4", spec := "lawS2882BIPv4", named := ["net/netip.z4", "encoding/binary.BigEndian", "net/netip.z0"], apart := false, laid := [("net/netip.z4", laid_net_netip_z4), ("net/netip.z0", laid_net_netip_z0)] }
def LawS2882BIPv4Said : Prop := lawS2882BIPv4Row.holds Ybad.pinned (OpenSpec.ofChange lawS2882BIPv4Spec)

/-- ITS FALSE NEIGHBOUR: 'it returns false'. Refute it at one input. -/
def lawS2882BIPv4Wrong : ChangeSpec := { name := "lawS2882BIPv4", fn := fun _ => fun
  | [d1, d2, d3, d4] => { results := [.lit (.bool false)], args := [d1, d2, d3, d4] }
  | _ => none }
def LawS2882BIPv4WrongFalsely : Prop := lawS2882BIPv4Row.holds Ybad.pinned (OpenSpec.ofChange lawS2882BIPv4Wrong)

/-- 'diameter.LawS2882BIPv6': WHATEVER THE INPUT: true; the input reads as it did. -/
def lawS2882BIPv6Spec : ChangeSpec := { name := "lawS2882BIPv6", fn := fun _ => fun
  | [d1, d2, d3, d4, d5] => { results := [.lit (.bool true)], args := [d1, d2, d3, d4, d5] }
  | _ => none }
def lawS2882BIPv6Row : OpenClaim := { program := "ybulkbgqwdoor", sum := "ec4d49e3fcdc0c249a7d913062a31519284c9d622c5d50346d033e3bb565ffdf", func := "example.com/keystrap/keystrap/diameter.LawS2882BIPv6", spec := "lawS2882BIPv6", named := ["net/netip.z6noz", "encoding/binary.BigEndian", "net/netip.z4", "net/netip.z0"], apart := false, laid := [("net/netip.z4", laid_net_netip_z4), ("net/netip.z6noz", laid_net_netip_z6noz), ("net/netip.z0", laid_net_netip_z0)] }
def LawS2882BIPv6Said : Prop := lawS2882BIPv6Row.holds Ybad.pinned (OpenSpec.ofChange lawS2882BIPv6Spec)

/-- ITS FALSE NEIGHBOUR: 'it returns false'. Refute it at one input. -/
def lawS2882BIPv6Wrong : ChangeSpec := { name := "lawS2882BIPv6", fn := fun _ => fun
  | [d1, d2, d3, d4, d5] => { results := [.lit (.bool false)], args := [d1, d2, d3, d4, d5] }
  | _ => none }
def LawS2882BIPv6WrongFalsely : Prop := lawS2882BIPv6Row.holds Ybad.pinned (OpenSpec.ofChange lawS2882BIPv6Wrong)

/-- 'diameter.LawS2882BZero': WHATEVER THE INPUT: true; the input reads as it did. -/
def lawS2882BZeroSpec : ChangeSpec := { name := "lawS2882BZero", fn := fun _ => fun
  | [d1, d2, d3] => { results := [.lit (.bool true)], args := [d1, d2, d3] }
  | _ => none }
def lawS2882BZeroRow : OpenClaim := { program := "ybulkbgqwdoor", sum := "ec4d49e3fcdc0c249a7d913062a31519284c9d622c5d50346d033e3bb565ffdf", func := "example.com/keystrap/keystrap/diameter.LawS2882BZero", spec := "lawS2882BZero", named := ["encoding/binary.BigEndian", "net/netip.z4", "net/netip.z0"], apart := false, laid := [("net/netip.z4", laid_net_netip_z4), ("net/netip.z0", laid_net_netip_z0)] }
def LawS2882BZeroSaid : Prop := lawS2882BZeroRow.holds Ybad.pinned (OpenSpec.ofChange lawS2882BZeroSpec)

/-- ITS FALSE NEIGHBOUR: 'it returns false'. Refute it at one input. -/
def lawS2882BZeroWrong : ChangeSpec := { name := "lawS2882BZero", fn := fun _ => fun
  | [d1, d2, d3] => { results := [.lit (.bool false)], args := [d1, d2, d3] }
  | _ => none }
def LawS2882BZeroWrongFalsely : Prop := lawS2882BZeroRow.holds Ybad.pinned (OpenSpec.ofChange lawS2882BZeroWrong)

end Rows
end Go.Proofs.YbulkbgqwDoor

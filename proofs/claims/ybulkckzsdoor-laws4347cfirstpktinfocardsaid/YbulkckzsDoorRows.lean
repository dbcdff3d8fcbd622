/-
  NARROWER THAN 'FOR EVERY INPUT', by the rows' own cells (each row's printed sentence says how): LawS4347CFirstPktinfo: laid · LawS4347CMalformedZero: laid · LawS4347CRaw: laid.
  DERIVED. THE GIVEN ROWS OF THIS SEAT. 3 by the template 'for every input the law returns true; each argument reads behind the call as it read before'; 0 by the template 'total and deterministic' (their statements: YbulkckzsDoorTotals.lean).
  GIVEN WITH THE SEED: the statements are not yours to turn. If you find one false, say at which input.
  Laid BY PROGRAM, IN A SANDBOX (cutbox-rows.mjs): the forced cells as the released guide's own fill.sh prints them over the translation 32f37914d84a1563… (all of the seat's roots in one cut). By AI agents, Wed Nov 11 2026. No macro, syntax, notation, axiom, sorry.
-/
import Derived.Test.YbulkckzsDoorChecked
import GoSem.Claim
import GoSem.ClaimJoined
import GoSem.ClaimMapViews
import Derived.JoinedTies
import Derived.KernelRfl
namespace Go.Proofs.YbulkckzsDoor
/- THE CELL 'sum', in the pinned program and in every row, IS THE sha256 OF THE DUMP (.gsa) THAT YbulkckzsDoorProg.lean LOADS. Nothing in Lean hashes anything: it is a label: what it is worth is what the hold of that sum in a sandbox is worth. -/
noncomputable def Ybad.pinned : Pinned := { name := "ybulkckzsdoor", sum := "32f37914d84a156338366f678096f3bea0fab18dd019cc315742cba6afdab5e9", checked := Ybad.checked }
namespace Rows
def none {H : Type} : Left H := { results := [], args := [] }

/- WHAT THE LISTED PACKAGE-LEVEL VARIABLES READ AS WHEN THE CALL BEGINS. Each datum BY PROGRAM (the guide's laid-datum.mjs) off the statement by which the dump's own 'gosem.cut.vars' lays the variable. In a bare row this is a premise. The card (YbulkckzsDoorCards.lean) ties it to the program's text. -/
def laid_net_netip_z4 {H : Type} : DataW H := .agg [.ptr (.agg [.lit (.bool false), .lit (.string [])])]
def laid_net_netip_z6noz {H : Type} : DataW H := .agg [.ptr (.agg [.lit (.bool true), .lit (.string [])])]

/-- 'collector.LawS4347CFirstPktinfo': WHATEVER THE INPUT: true; the input reads as it did. -/
def lawS4347CFirstPktinfoSpec : ChangeSpec := { name := "lawS4347CFirstPktinfo", fn := fun _ => fun
  | [d1, d2] => { results := [.lit (.bool true)], args := [d1, d2] }
  | _ => none }
def lawS4347CFirstPktinfoRow : OpenClaim := { program := "ybulkckzsdoor", sum := "32f37914d84a156338366f678096f3bea0fab18dd019cc315742cba6afdab5e9", func := "example.com/freshet/freshet/collector.LawS4347CFirstPktinfo", spec := "lawS4347CFirstPktinfo", named := ["encoding/binary.LittleEndian", "net/netip.z6noz", "net/netip.z4"], apart := false, laid := [("net/netip.z4", laid_net_netip_z4), ("net/netip.z6noz", laid_net_netip_z6noz)] }
def LawS4347CFirstPktinfoSaid : Prop := lawS4347CFirstPktinfoRow.holds Ybad.pinned (OpenSpec.ofChange lawS4347CFirstPktinfoSpec)

/-- ITS FALSE NEIGHBOUR: 'it returns false'. Refute it at one input. -/
def lawS4347CFirstPktinfoWrong : ChangeSpec := { name := "lawS4347CFirstPktinfo", fn := fun _ => fun
  | [d1, d2] => { results := [.lit (.bool false)], args := [d1, d2] }
  | _ => none }
def LawS4347CFirstPktinfoWrongFalsely : Prop := lawS4347CFirstPktinfoRow.holds Ybad.pinned (OpenSpec.ofChange lawS4347CFirstPktinfoWrong)

/-- 'collector.LawS4347CMalformedZero': WHATEVER THE INPUT: true; the input reads as it did. -/
def lawS4347CMalformedZeroSpec : ChangeSpec := { name := "lawS4347CMalformedZero", fn := fun _ => fun
  | [d1, d2] => { results := [.lit (.bool true)], args := [d1, d2] }
  | _ => none }
def lawS4347CMalformedZeroRow : OpenClaim := { program := "ybulkckzsdoor", sum := "32f37914d84a156338366f678096f3bea0fab18dd019cc315742cba6afdab5e9", func := "example.com/freshet/freshet/collector.LawS4347CMalformedZero", spec := "lawS4347CMalformedZero", named := ["encoding/binary.LittleEndian", "net/netip.z6noz", "net/netip.z4"], apart := false, laid := [("net/netip.z4", laid_net_netip_z4), ("net/netip.z6noz", laid_net_netip_z6noz)] }
def LawS4347CMalformedZeroSaid : Prop := lawS4347CMalformedZeroRow.holds Ybad.pinned (OpenSpec.ofChange lawS4347CMalformedZeroSpec)

/-- ITS FALSE NEIGHBOUR: 'it returns false'. Refute it at one input. -/
def lawS4347CMalformedZeroWrong : ChangeSpec := { name := "lawS4347CMalformedZero", fn := fun _ => fun
  | [d1, d2] => { results := [.lit (.bool false)], args := [d1, d2] }
  | _ => none }
def LawS4347CMalformedZeroWrongFalsely : Prop := lawS4347CMalformedZeroRow.holds Ybad.pinned (OpenSpec.ofChange lawS4347CMalformedZeroWrong)

/-- 'collector.LawS4347CRaw': WHATEVER THE INPUT: true; the input reads as it did. -/
def lawS4347CRawSpec : ChangeSpec := { name := "lawS4347CRaw", fn := fun _ => fun
  | [d] => { results := [.lit (.bool true)], args := [d] }
  | _ => none }
def lawS4347CRawRow : OpenClaim := { program := "ybulkckzsdoor", sum := "32f37914d84a156338366f678096f3bea0fab18dd019cc315742cba6afdab5e9", func := "example.com/freshet/freshet/collector.LawS4347CRaw", spec := "lawS4347CRaw", named := ["net/netip.z6noz", "net/netip.z4"], apart := false, laid := [("net/netip.z4", laid_net_netip_z4), ("net/netip.z6noz", laid_net_netip_z6noz)] }
def LawS4347CRawSaid : Prop := lawS4347CRawRow.holds Ybad.pinned (OpenSpec.ofChange lawS4347CRawSpec)

/-- ITS FALSE NEIGHBOUR: 'it returns false'. Refute it at one input. -/
def lawS4347CRawWrong : ChangeSpec := { name := "lawS4347CRaw", fn := fun _ => fun
  | [d] => { results := [.lit (.bool false)], args := [d] }
  | _ => none }
def LawS4347CRawWrongFalsely : Prop := lawS4347CRawRow.holds Ybad.pinned (OpenSpec.ofChange lawS4347CRawWrong)

end Rows
end Go.Proofs.YbulkckzsDoor

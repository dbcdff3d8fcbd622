/-
  No cell of these rows narrows 'for every input' (looked for: loops, veiled, ifaces, maps, wideKeys, modest, calm, conditions, laid).
  DERIVED. THE GIVEN ROWS OF THIS SEAT. 1 by the template 'for every input the law returns true; each argument reads behind the call as it read before'; 0 by the template 'total and deterministic' (their statements: YbulkckzsTotals.lean).
  GIVEN WITH THE SEED: the statements are not yours to turn. If you find one false, say at which input.
  Laid BY PROGRAM, IN A SANDBOX (cutbox-rows.mjs): the forced cells as the released guide's own fill.sh prints them over the translation c864cb13217cafae… (all of the seat's roots in one cut). By AI agents, Wed Nov 11 2026. No macro, syntax, notation, axiom, sorry.
-/
import Derived.Test.YbulkckzsChecked
import GoSem.Claim
import GoSem.ClaimJoined
import GoSem.ClaimMapViews
import Derived.JoinedTies
import Derived.KernelRfl
namespace Go.Proofs.Ybulkckzs
/- THE CELL 'sum', in the pinned program and in every row, IS THE sha256 OF THE DUMP (.gsa) THAT YbulkckzsProg.lean LOADS. Nothing in Lean hashes anything: it is a label: what it is worth is what the hold of that sum in a sandbox is worth. -/
noncomputable def Yba.pinned : Pinned := { name := "ybulkckzs", sum := "c864cb13217cafae3a578cea8cb96effb34702b0340178737c4bbe468392840e", checked := Yba.checked }
namespace Rows
def none {H : Type} : Left H := { results := [], args := [] }

/-- 'ipfix.LawS4347BLose': WHATEVER THE INPUT: true; the input reads as it did. -/
def lawS4347BLoseSpec : ChangeSpec := { name := "lawS4347BLose", fn := fun _ => fun
  | [d1, d2, d3, d4, d5, d6] => { results := [.lit (.bool true)], args := [d1, d2, d3, d4, d5, d6] }
  | _ => none }
def lawS4347BLoseRow : OpenClaim := { program := "ybulkckzs", sum := "c864cb13217cafae3a578cea8cb96effb34702b0340178737c4bbe468392840e", func := "example.com/freshet/freshet/ipfix.LawS4347BLose", spec := "lawS4347BLose", apart := false }
def LawS4347BLoseSaid : Prop := lawS4347BLoseRow.holds Yba.pinned (OpenSpec.ofChange lawS4347BLoseSpec)

/-- ITS FALSE NEIGHBOUR: 'it returns false'. Refute it at one input. -/
def lawS4347BLoseWrong : ChangeSpec := { name := "lawS4347BLose", fn := fun _ => fun
  | [d1, d2, d3, d4, d5, d6] => { results := [.lit (.bool false)], args := [d1, d2, d3, d4, d5, d6] }
  | _ => none }
def LawS4347BLoseWrongFalsely : Prop := lawS4347BLoseRow.holds Yba.pinned (OpenSpec.ofChange lawS4347BLoseWrong)

end Rows
end Go.Proofs.Ybulkckzs

/-
  No cell of these rows narrows 'for every input' (looked for: loops, veiled, ifaces, maps, wideKeys, modest, calm, conditions, laid).
  DERIVED. THE GIVEN ROWS OF THIS SEAT. 6 by the template 'for every input the law returns true; each argument reads behind the call as it read before'; 0 by the template 'total and deterministic' (their statements: YbulkckvyTotals.lean).
  GIVEN WITH THE SEED: the statements are not yours to turn. If you find one false, say at which input.
  Laid BY PROGRAM, IN A SANDBOX (cutbox-rows.mjs): the forced cells as the released guide's own fill.sh prints them over the translation e22d04329596867b… (all of the seat's roots in one cut). By AI agents, Wed Nov 11 2026. No macro, syntax, notation, axiom, sorry.
-/
import Derived.Test.YbulkckvyChecked
import GoSem.Claim
import GoSem.ClaimJoined
import GoSem.ClaimMapViews
import Derived.JoinedTies
import Derived.KernelRfl
namespace Go.Proofs.Ybulkckvy
/- THE CELL 'sum', in the pinned program and in every row, IS THE sha256 OF THE DUMP (.gsa) THAT YbulkckvyProg.lean LOADS. Nothing in Lean hashes anything: it is a label: what it is worth is what the hold of that sum in a sandbox is worth. -/
noncomputable def Yba.pinned : Pinned := { name := "ybulkckvy", sum := "e22d04329596867b72b28d5b0517a46ce99dc10dc11802cab409951482afbf35", checked := Yba.checked }
namespace Rows
def none {H : Type} : Left H := { results := [], args := [] }

/-- 'sqlmini.LawS4340AStep': WHATEVER THE INPUT: true; the input reads as it did. -/
def lawS4340AStepSpec : ChangeSpec := { name := "lawS4340AStep", fn := fun _ => fun
  | [d1, d2, d3, d4] => { results := [.lit (.bool true)], args := [d1, d2, d3, d4] }
  | _ => none }
def lawS4340AStepRow : OpenClaim := { program := "ybulkckvy", sum := "e22d04329596867b72b28d5b0517a46ce99dc10dc11802cab409951482afbf35", func := "example.com/rowfence/rowfence/internal/play/sqlmini.LawS4340AStep", spec := "lawS4340AStep", apart := false }
def LawS4340AStepSaid : Prop := lawS4340AStepRow.holds Yba.pinned (OpenSpec.ofChange lawS4340AStepSpec)

/-- ITS FALSE NEIGHBOUR: 'it returns false'. Refute it at one input. -/
def lawS4340AStepWrong : ChangeSpec := { name := "lawS4340AStep", fn := fun _ => fun
  | [d1, d2, d3, d4] => { results := [.lit (.bool false)], args := [d1, d2, d3, d4] }
  | _ => none }
def LawS4340AStepWrongFalsely : Prop := lawS4340AStepRow.holds Yba.pinned (OpenSpec.ofChange lawS4340AStepWrong)

/-- 'sqlmini.LawS4340ARun': WHATEVER THE INPUT: true; the input reads as it did. -/
def lawS4340ARunSpec : ChangeSpec := { name := "lawS4340ARun", fn := fun _ => fun
  | [d1, d2, d3, d4] => { results := [.lit (.bool true)], args := [d1, d2, d3, d4] }
  | _ => none }
def lawS4340ARunRow : OpenClaim := { program := "ybulkckvy", sum := "e22d04329596867b72b28d5b0517a46ce99dc10dc11802cab409951482afbf35", func := "example.com/rowfence/rowfence/internal/play/sqlmini.LawS4340ARun", spec := "lawS4340ARun", apart := false }
def LawS4340ARunSaid : Prop := lawS4340ARunRow.holds Yba.pinned (OpenSpec.ofChange lawS4340ARunSpec)

/-- ITS FALSE NEIGHBOUR: 'it returns false'. Refute it at one input. -/
def lawS4340ARunWrong : ChangeSpec := { name := "lawS4340ARun", fn := fun _ => fun
  | [d1, d2, d3, d4] => { results := [.lit (.bool false)], args := [d1, d2, d3, d4] }
  | _ => none }
def LawS4340ARunWrongFalsely : Prop := lawS4340ARunRow.holds Yba.pinned (OpenSpec.ofChange lawS4340ARunWrong)

/-- 'memstore.LawS4340BScript': WHATEVER THE INPUT: true; the input reads as it did. -/
def lawS4340BScriptSpec : ChangeSpec := { name := "lawS4340BScript", fn := fun _ => fun
  | [d1, d2, d3] => { results := [.lit (.bool true)], args := [d1, d2, d3] }
  | _ => none }
def lawS4340BScriptRow : OpenClaim := { program := "ybulkckvy", sum := "e22d04329596867b72b28d5b0517a46ce99dc10dc11802cab409951482afbf35", func := "example.com/rowfence/rowfence/internal/play/memstore.LawS4340BScript", spec := "lawS4340BScript", inPlace := ["internal/bytealg.abigen_runtime_cmpstring", "slices.overlaps[example.com/rowfence/rowfence/internal/play/memstore.entry]", "slices.overlaps[string]", "slices.overlaps[*example.com/rowfence/rowfence/internal/play/memstore.node]"], unfollowed := true, recurses := true, apart := false }
def LawS4340BScriptSaid : Prop := lawS4340BScriptRow.holds Yba.pinned (OpenSpec.ofChange lawS4340BScriptSpec)

/-- ITS FALSE NEIGHBOUR: 'it returns false'. Refute it at one input. -/
def lawS4340BScriptWrong : ChangeSpec := { name := "lawS4340BScript", fn := fun _ => fun
  | [d1, d2, d3] => { results := [.lit (.bool false)], args := [d1, d2, d3] }
  | _ => none }
def LawS4340BScriptWrongFalsely : Prop := lawS4340BScriptRow.holds Yba.pinned (OpenSpec.ofChange lawS4340BScriptWrong)

/-- 'memstore.LawS4340BStrings': WHATEVER THE INPUT: true; the input reads as it did. -/
def lawS4340BStringsSpec : ChangeSpec := { name := "lawS4340BStrings", fn := fun _ => fun
  | [d1, d2] => { results := [.lit (.bool true)], args := [d1, d2] }
  | _ => none }
def lawS4340BStringsRow : OpenClaim := { program := "ybulkckvy", sum := "e22d04329596867b72b28d5b0517a46ce99dc10dc11802cab409951482afbf35", func := "example.com/rowfence/rowfence/internal/play/memstore.LawS4340BStrings", spec := "lawS4340BStrings", inPlace := ["slices.overlaps[string]", "internal/bytealg.abigen_runtime_cmpstring", "slices.overlaps[example.com/rowfence/rowfence/internal/play/memstore.entry]", "slices.overlaps[*example.com/rowfence/rowfence/internal/play/memstore.node]"], unfollowed := true, recurses := true, apart := false }
def LawS4340BStringsSaid : Prop := lawS4340BStringsRow.holds Yba.pinned (OpenSpec.ofChange lawS4340BStringsSpec)

/-- ITS FALSE NEIGHBOUR: 'it returns false'. Refute it at one input. -/
def lawS4340BStringsWrong : ChangeSpec := { name := "lawS4340BStrings", fn := fun _ => fun
  | [d1, d2] => { results := [.lit (.bool false)], args := [d1, d2] }
  | _ => none }
def LawS4340BStringsWrongFalsely : Prop := lawS4340BStringsRow.holds Yba.pinned (OpenSpec.ofChange lawS4340BStringsWrong)

/-- 'memstore.LawS4340CLeftmost': WHATEVER THE INPUT: true; the input reads as it did. -/
def lawS4340CLeftmostSpec : ChangeSpec := { name := "lawS4340CLeftmost", fn := fun _ => fun
  | [d1, d2] => { results := [.lit (.bool true)], args := [d1, d2] }
  | _ => none }
def lawS4340CLeftmostRow : OpenClaim := { program := "ybulkckvy", sum := "e22d04329596867b72b28d5b0517a46ce99dc10dc11802cab409951482afbf35", func := "example.com/rowfence/rowfence/internal/play/memstore.LawS4340CLeftmost", spec := "lawS4340CLeftmost", recurses := true, apart := false }
def LawS4340CLeftmostSaid : Prop := lawS4340CLeftmostRow.holds Yba.pinned (OpenSpec.ofChange lawS4340CLeftmostSpec)

/-- ITS FALSE NEIGHBOUR: 'it returns false'. Refute it at one input. -/
def lawS4340CLeftmostWrong : ChangeSpec := { name := "lawS4340CLeftmost", fn := fun _ => fun
  | [d1, d2] => { results := [.lit (.bool false)], args := [d1, d2] }
  | _ => none }
def LawS4340CLeftmostWrongFalsely : Prop := lawS4340CLeftmostRow.holds Yba.pinned (OpenSpec.ofChange lawS4340CLeftmostWrong)

/-- 'memstore.LawS4340CSmallest': WHATEVER THE INPUT: true; the input reads as it did. -/
def lawS4340CSmallestSpec : ChangeSpec := { name := "lawS4340CSmallest", fn := fun _ => fun
  | [d] => { results := [.lit (.bool true)], args := [d] }
  | _ => none }
def lawS4340CSmallestRow : OpenClaim := { program := "ybulkckvy", sum := "e22d04329596867b72b28d5b0517a46ce99dc10dc11802cab409951482afbf35", func := "example.com/rowfence/rowfence/internal/play/memstore.LawS4340CSmallest", spec := "lawS4340CSmallest", inPlace := ["internal/bytealg.abigen_runtime_cmpstring", "slices.overlaps[example.com/rowfence/rowfence/internal/play/memstore.entry]", "slices.overlaps[string]", "slices.overlaps[*example.com/rowfence/rowfence/internal/play/memstore.node]"], unfollowed := true, recurses := true, apart := false }
def LawS4340CSmallestSaid : Prop := lawS4340CSmallestRow.holds Yba.pinned (OpenSpec.ofChange lawS4340CSmallestSpec)

/-- ITS FALSE NEIGHBOUR: 'it returns false'. Refute it at one input. -/
def lawS4340CSmallestWrong : ChangeSpec := { name := "lawS4340CSmallest", fn := fun _ => fun
  | [d] => { results := [.lit (.bool false)], args := [d] }
  | _ => none }
def LawS4340CSmallestWrongFalsely : Prop := lawS4340CSmallestRow.holds Yba.pinned (OpenSpec.ofChange lawS4340CSmallestWrong)

end Rows
end Go.Proofs.Ybulkckvy

/-
  DERIVED. GIVEN WITH THE SEED: THE CARDS: each row of YbulkckzsDoorRows.lean that lists a variable, with what it lists TIED to the program's text (the seventh form; the later family's looks); each row that meets fmt, with fmt's text TOLD by the authors' own Lean function (tested against real Go, not proved from fmt's source: count such statements apart). THE CARD IS WHAT COUNTS. Prove the row's statement (the work); the ties are given (YbulkckzsDoorTie.lean); close each card by the builder's one call (the guide's Derived/Test/ToyasCard.lean, 'card_holds'). Laid BY PROGRAM, IN A SANDBOX (cutbox-door.mjs). By AI agents, Wed Nov 11 2026. No macro, syntax, notation, axiom, sorry.
-/
import Derived.Test.YbulkckzsDoorRows
import GoSem.ClaimSeven
namespace Go.Proofs.YbulkckzsDoor
namespace Rows

/-- THE TIED CARD OF 'collector.LawS4347CFirstPktinfo'. -/
def lawS4347CFirstPktinfoCard : Claim7 := { stood := { row := lawS4347CFirstPktinfoRow, standIns := [], harness := (true, "48ad29eeb14c8983db4a86dbc3859d32b1edbce37ea4026a4c76d762e9cb744e"), looks := false }, kinds := [], alts := [], laidByText := true, laidKinds := [.called, .called], laidTests := true, laidLooks := .later }
def LawS4347CFirstPktinfoCardSaid : Prop := Claim7.holds Ybad.pinned (.plain (OpenSpec.ofChange lawS4347CFirstPktinfoSpec)) lawS4347CFirstPktinfoCard

/-- THE TIED CARD OF 'collector.LawS4347CMalformedZero'. -/
def lawS4347CMalformedZeroCard : Claim7 := { stood := { row := lawS4347CMalformedZeroRow, standIns := [], harness := (true, "48ad29eeb14c8983db4a86dbc3859d32b1edbce37ea4026a4c76d762e9cb744e"), looks := false }, kinds := [], alts := [], laidByText := true, laidKinds := [.called, .called], laidTests := true, laidLooks := .later }
def LawS4347CMalformedZeroCardSaid : Prop := Claim7.holds Ybad.pinned (.plain (OpenSpec.ofChange lawS4347CMalformedZeroSpec)) lawS4347CMalformedZeroCard

/-- THE TIED CARD OF 'collector.LawS4347CRaw'. -/
def lawS4347CRawCard : Claim7 := { stood := { row := lawS4347CRawRow, standIns := [], harness := (true, "48ad29eeb14c8983db4a86dbc3859d32b1edbce37ea4026a4c76d762e9cb744e"), looks := false }, kinds := [], alts := [], laidByText := true, laidKinds := [.called, .called], laidTests := true, laidLooks := .later }
def LawS4347CRawCardSaid : Prop := Claim7.holds Ybad.pinned (.plain (OpenSpec.ofChange lawS4347CRawSpec)) lawS4347CRawCard
end Rows
end Go.Proofs.YbulkckzsDoor

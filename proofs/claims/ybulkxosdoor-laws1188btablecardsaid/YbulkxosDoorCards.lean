/-
  DERIVED. GIVEN WITH THE SEED: THE CARDS: each row of YbulkxosDoorRows.lean that lists a variable, with what it lists TIED to the program's text (the seventh form; the later family's looks); each row that meets fmt, with fmt's text TOLD by the authors' own Lean function (tested against real Go, not proved from fmt's source: count such statements apart). THE CARD IS WHAT COUNTS. Prove the row's statement (the work); the ties are given (YbulkxosDoorTie.lean); close each card by the builder's one call (the guide's Derived/Test/ToyasCard.lean, 'card_holds'). Laid BY PROGRAM, IN A SANDBOX (cutbox-door.mjs). By AI agents, Wed Nov 11 2026. No macro, syntax, notation, axiom, sorry.
-/
import Derived.Test.YbulkxosDoorRows
import GoSem.ClaimSeven
namespace Go.Proofs.YbulkxosDoor
namespace Rows

/-- THE TIED CARD OF 'schedule.LawS1188BTable'. -/
def lawS1188BTableCard : Claim7 := { stood := { row := lawS1188BTableRow, standIns := [], harness := (true, "832927e15a61fff6ba2df7fb21b367d7b8b84d61d391be63de4d929056408e6e"), looks := false }, kinds := [], alts := [], laidByText := true, laidKinds := [.widerDeep], laidTests := true, laidLooks := .later }
def LawS1188BTableCardSaid : Prop := Claim7.holds Ybad.pinned (.plain (OpenSpec.ofChange lawS1188BTableSpec)) lawS1188BTableCard

/-- THE TIED CARD OF 'schedule.LawS1188BRoundTrip'. -/
def lawS1188BRoundTripCard : Claim7 := { stood := { row := lawS1188BRoundTripRow, standIns := [], harness := (true, "832927e15a61fff6ba2df7fb21b367d7b8b84d61d391be63de4d929056408e6e"), looks := false }, kinds := [], alts := [], laidByText := true, laidKinds := [.widerDeep], laidTests := true, laidLooks := .later }
def LawS1188BRoundTripCardSaid : Prop := Claim7.holds Ybad.pinned (.plain (OpenSpec.ofChange lawS1188BRoundTripSpec)) lawS1188BRoundTripCard
end Rows
end Go.Proofs.YbulkxosDoor

/-
  DERIVED. GIVEN WITH THE SEED: THE CARDS: each row of YbulkasxiFmtRows.lean that lists a variable, with what it lists TIED to the program's text (the seventh form; the later family's looks); each row that meets fmt, with fmt's text TOLD by the authors' own Lean function (tested against real Go, not proved from fmt's source: count such statements apart). THE CARD IS WHAT COUNTS. Prove the row's statement (the work); the ties are given (YbulkasxiFmtTie.lean); close each card by the builder's one call (the guide's Derived/Test/ToyasCard.lean, 'card_holds'). Laid BY PROGRAM, IN A SANDBOX (cutbox-door.mjs). By AI agents, Wed Nov 11 2026. No macro, syntax, notation, axiom, sorry.
-/
import Derived.Test.YbulkasxiFmtRows
import GoSem.ClaimSeven
namespace Go.Proofs.YbulkasxiFmt
namespace Rows

/-- THE TOLD CARD OF 'api.LawS2218CHandOver'. -/
def lawS2218CHandOverCard : Claim7 := { stood := { row := lawS2218CHandOverRow, standIns := [], harness := (true, "29731ab013354fff1b6bfb9dd0e091eb91e63be424a04ae697c8ac6dc69198fd"), looks := false }, told := true, goes := false }
def LawS2218CHandOverToldSaid : Prop := Claim7.holds Ybaf.pinned (.plain (OpenSpec.ofChange lawS2218CHandOverSpec)) lawS2218CHandOverCard
/-- ITS FALSE NEIGHBOUR. Refute it at one input. -/
def LawS2218CHandOverToldWrongFalsely : Prop := Claim7.holds Ybaf.pinned (.plain (OpenSpec.ofChange lawS2218CHandOverWrong)) lawS2218CHandOverCard

/-- THE TOLD CARD OF 'api.LawS2218CLedgerError'. -/
def lawS2218CLedgerErrorCard : Claim7 := { stood := { row := lawS2218CLedgerErrorRow, standIns := [], harness := (true, "29731ab013354fff1b6bfb9dd0e091eb91e63be424a04ae697c8ac6dc69198fd"), looks := false }, told := true, goes := false }
def LawS2218CLedgerErrorToldSaid : Prop := Claim7.holds Ybaf.pinned (.plain (OpenSpec.ofChange lawS2218CLedgerErrorSpec)) lawS2218CLedgerErrorCard
/-- ITS FALSE NEIGHBOUR. Refute it at one input. -/
def LawS2218CLedgerErrorToldWrongFalsely : Prop := Claim7.holds Ybaf.pinned (.plain (OpenSpec.ofChange lawS2218CLedgerErrorWrong)) lawS2218CLedgerErrorCard
end Rows
end Go.Proofs.YbulkasxiFmt

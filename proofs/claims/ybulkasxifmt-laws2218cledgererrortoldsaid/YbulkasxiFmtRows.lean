/-
  No cell of these rows narrows 'for every input' (looked for: loops, veiled, ifaces, maps, wideKeys, modest, calm, conditions, laid).
  DERIVED. THE GIVEN ROWS OF THIS SEAT. 2 by the template 'for every input the law returns true; each argument reads behind the call as it read before'; 0 by the template 'total and deterministic' (their statements: YbulkasxiFmtTotals.lean).
  GIVEN WITH THE SEED: the statements are not yours to turn. If you find one false, say at which input.
  Laid BY PROGRAM, IN A SANDBOX (cutbox-rows.mjs): the forced cells as the released guide's own fill.sh prints them over the translation b356eb32b2a4e419… (all of the seat's roots in one cut). By AI agents, Wed Nov 11 2026. No macro, syntax, notation, axiom, sorry.
-/
import Derived.Test.YbulkasxiFmtChecked
import GoSem.Claim
import GoSem.ClaimJoined
import GoSem.ClaimMapViews
import Derived.JoinedTies
import Derived.KernelRfl
namespace Go.Proofs.YbulkasxiFmt
/- THE CELL 'sum', in the pinned program and in every row, IS THE sha256 OF THE DUMP (.gsa) THAT YbulkasxiFmtProg.lean LOADS. Nothing in Lean hashes anything: it is a label: what it is worth is what the hold of that sum in a sandbox is worth. -/
noncomputable def Ybaf.pinned : Pinned := { name := "ybulkasxifmt", sum := "b356eb32b2a4e4190eea4a22082fdab6b2703e24bbca7bc334dd43d904cbc969", checked := Ybaf.checked }
namespace Rows
def none {H : Type} : Left H := { results := [], args := [] }

/-- 'api.LawS2218CHandOver': WHATEVER THE INPUT: true; the input reads as it did. -/
def lawS2218CHandOverSpec : ChangeSpec := { name := "lawS2218CHandOver", fn := fun _ => fun
  | [d1, d2, d3] => { results := [.lit (.bool true)], args := [d1, d2, d3] }
  | _ => none }
def lawS2218CHandOverRow : OpenClaim := { program := "ybulkasxifmt", sum := "b356eb32b2a4e4190eea4a22082fdab6b2703e24bbca7bc334dd43d904cbc969", func := "example.com/berth/berth/internal/api.LawS2218CHandOver", spec := "lawS2218CHandOver", stops := ["fmt.Sprintf"], inPlace := ["fmt.Sprintf"], plainKeys := false, apart := false }
/-- NO THEOREM (fmt's text is open here; it may be false): for the released tool's asking of the row's closed facts alone. THE STATEMENT IS 'LawS2218CHandOverToldSaid' (YbulkasxiFmtCards.lean). -/
def LawS2218CHandOverFormAsk : Prop := lawS2218CHandOverRow.holds Ybaf.pinned (OpenSpec.ofChange lawS2218CHandOverSpec)

/-- ITS FALSE NEIGHBOUR: 'it returns false'. Refute it at one input. -/
def lawS2218CHandOverWrong : ChangeSpec := { name := "lawS2218CHandOver", fn := fun _ => fun
  | [d1, d2, d3] => { results := [.lit (.bool false)], args := [d1, d2, d3] }
  | _ => none }
def LawS2218CHandOverWrongFormAsk : Prop := lawS2218CHandOverRow.holds Ybaf.pinned (OpenSpec.ofChange lawS2218CHandOverWrong)

/-- 'api.LawS2218CLedgerError': WHATEVER THE INPUT: true; the input reads as it did. -/
def lawS2218CLedgerErrorSpec : ChangeSpec := { name := "lawS2218CLedgerError", fn := fun _ => fun
  | [d1, d2, d3] => { results := [.lit (.bool true)], args := [d1, d2, d3] }
  | _ => none }
def lawS2218CLedgerErrorRow : OpenClaim := { program := "ybulkasxifmt", sum := "b356eb32b2a4e4190eea4a22082fdab6b2703e24bbca7bc334dd43d904cbc969", func := "example.com/berth/berth/internal/api.LawS2218CLedgerError", spec := "lawS2218CLedgerError", stops := ["fmt.Sprintf"], inPlace := ["fmt.Sprintf"], plainKeys := false, apart := false }
/-- NO THEOREM (fmt's text is open here; it may be false): for the released tool's asking of the row's closed facts alone. THE STATEMENT IS 'LawS2218CLedgerErrorToldSaid' (YbulkasxiFmtCards.lean). -/
def LawS2218CLedgerErrorFormAsk : Prop := lawS2218CLedgerErrorRow.holds Ybaf.pinned (OpenSpec.ofChange lawS2218CLedgerErrorSpec)

/-- ITS FALSE NEIGHBOUR: 'it returns false'. Refute it at one input. -/
def lawS2218CLedgerErrorWrong : ChangeSpec := { name := "lawS2218CLedgerError", fn := fun _ => fun
  | [d1, d2, d3] => { results := [.lit (.bool false)], args := [d1, d2, d3] }
  | _ => none }
def LawS2218CLedgerErrorWrongFormAsk : Prop := lawS2218CLedgerErrorRow.holds Ybaf.pinned (OpenSpec.ofChange lawS2218CLedgerErrorWrong)

end Rows
end Go.Proofs.YbulkasxiFmt

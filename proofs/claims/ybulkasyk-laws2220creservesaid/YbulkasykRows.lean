/-
  No cell of these rows narrows 'for every input' (looked for: loops, veiled, ifaces, maps, wideKeys, modest, calm, conditions, laid).
  DERIVED. THE GIVEN ROWS OF THIS SEAT. 1 by the template 'for every input the law returns true; each argument reads behind the call as it read before'; 0 by the template 'total and deterministic' (their statements: YbulkasykTotals.lean).
  GIVEN WITH THE SEED: the statements are not yours to turn. If you find one false, say at which input.
  Laid BY PROGRAM, IN A SANDBOX (cutbox-rows.mjs): the forced cells as the released guide's own fill.sh prints them over the translation 77d74978ec49a245… (all of the seat's roots in one cut). By AI agents, Wed Nov 11 2026. No macro, syntax, notation, axiom, sorry.
-/
import Derived.Test.YbulkasykChecked
import GoSem.Claim
import GoSem.ClaimJoined
import GoSem.ClaimMapViews
import Derived.JoinedTies
import Derived.KernelRfl
namespace Go.Proofs.Ybulkasyk
/- THE CELL 'sum', in the pinned program and in every row, IS THE sha256 OF THE DUMP (.gsa) THAT YbulkasykProg.lean LOADS. Nothing in Lean hashes anything: it is a label: what it is worth is what the hold of that sum in a sandbox is worth. -/
noncomputable def Yba.pinned : Pinned := { name := "ybulkasyk", sum := "77d74978ec49a2457de6d41546b1aa481ac4583bc51be642de0dfd5a832f1526", checked := Yba.checked }
namespace Rows
def none {H : Type} : Left H := { results := [], args := [] }

/-- 'rollmark.LawS2220CReserve': WHATEVER THE INPUT: true; the input reads as it did. -/
def lawS2220CReserveSpec : ChangeSpec := { name := "lawS2220CReserve", fn := fun _ => fun
  | [d1, d2, d3, d4] => { results := [.lit (.bool true)], args := [d1, d2, d3, d4] }
  | _ => none }
def lawS2220CReserveRow : OpenClaim := { program := "ybulkasyk", sum := "77d74978ec49a2457de6d41546b1aa481ac4583bc51be642de0dfd5a832f1526", func := "example.com/rollmark/rollmark.LawS2220CReserve", spec := "lawS2220CReserve", apart := false }
def LawS2220CReserveSaid : Prop := lawS2220CReserveRow.holds Yba.pinned (OpenSpec.ofChange lawS2220CReserveSpec)

/-- ITS FALSE NEIGHBOUR: 'it returns false'. Refute it at one input. -/
def lawS2220CReserveWrong : ChangeSpec := { name := "lawS2220CReserve", fn := fun _ => fun
  | [d1, d2, d3, d4] => { results := [.lit (.bool false)], args := [d1, d2, d3, d4] }
  | _ => none }
def LawS2220CReserveWrongFalsely : Prop := lawS2220CReserveRow.holds Yba.pinned (OpenSpec.ofChange lawS2220CReserveWrong)

end Rows
end Go.Proofs.Ybulkasyk

/-
  No cell of these rows narrows 'for every input' (looked for: loops, veiled, ifaces, maps, wideKeys, modest, calm, conditions, laid).
  DERIVED. THE GIVEN ROWS OF THIS SEAT. 2 by the template 'for every input the law returns true; each argument reads behind the call as it read before'; 0 by the template 'total and deterministic' (their statements: YbulkasxiTotals.lean).
  GIVEN WITH THE SEED: the statements are not yours to turn. If you find one false, say at which input.
  Laid BY PROGRAM, IN A SANDBOX (cutbox-rows.mjs): the forced cells as the released guide's own fill.sh prints them over the translation 12d31eab116a56d4… (all of the seat's roots in one cut). By AI agents, Wed Nov 11 2026. No macro, syntax, notation, axiom, sorry.
-/
import Derived.Test.YbulkasxiChecked
import GoSem.Claim
import GoSem.ClaimJoined
import GoSem.ClaimMapViews
import Derived.JoinedTies
import Derived.KernelRfl
namespace Go.Proofs.Ybulkasxi
/- THE CELL 'sum', in the pinned program and in every row, IS THE sha256 OF THE DUMP (.gsa) THAT YbulkasxiProg.lean LOADS. Nothing in Lean hashes anything: it is a label: what it is worth is what the hold of that sum in a sandbox is worth. -/
noncomputable def Yba.pinned : Pinned := { name := "ybulkasxi", sum := "12d31eab116a56d4a956e3355885ba30a9115f1ece3067473bf7092dc567b656", checked := Yba.checked }
namespace Rows
def none {H : Type} : Left H := { results := [], args := [] }

/-- 'sim.LawS2218BCounts': WHATEVER THE INPUT: true; the input reads as it did. -/
def lawS2218BCountsSpec : ChangeSpec := { name := "lawS2218BCounts", fn := fun _ => fun
  | [d1, d2] => { results := [.lit (.bool true)], args := [d1, d2] }
  | _ => none }
def lawS2218BCountsRow : OpenClaim := { program := "ybulkasxi", sum := "12d31eab116a56d4a956e3355885ba30a9115f1ece3067473bf7092dc567b656", func := "example.com/berth/berth/internal/sim.LawS2218BCounts", spec := "lawS2218BCounts", plainKeys := false, apart := false }
def LawS2218BCountsSaid : Prop := lawS2218BCountsRow.holds Yba.pinned (OpenSpec.ofChange lawS2218BCountsSpec)

/-- ITS FALSE NEIGHBOUR: 'it returns false'. Refute it at one input. -/
def lawS2218BCountsWrong : ChangeSpec := { name := "lawS2218BCounts", fn := fun _ => fun
  | [d1, d2] => { results := [.lit (.bool false)], args := [d1, d2] }
  | _ => none }
def LawS2218BCountsWrongFalsely : Prop := lawS2218BCountsRow.holds Yba.pinned (OpenSpec.ofChange lawS2218BCountsWrong)

/-- 'sim.LawS2218BDistinct': WHATEVER THE INPUT: true; the input reads as it did. -/
def lawS2218BDistinctSpec : ChangeSpec := { name := "lawS2218BDistinct", fn := fun _ => fun
  | [d1, d2] => { results := [.lit (.bool true)], args := [d1, d2] }
  | _ => none }
def lawS2218BDistinctRow : OpenClaim := { program := "ybulkasxi", sum := "12d31eab116a56d4a956e3355885ba30a9115f1ece3067473bf7092dc567b656", func := "example.com/berth/berth/internal/sim.LawS2218BDistinct", spec := "lawS2218BDistinct", plainKeys := false, apart := false }
def LawS2218BDistinctSaid : Prop := lawS2218BDistinctRow.holds Yba.pinned (OpenSpec.ofChange lawS2218BDistinctSpec)

/-- ITS FALSE NEIGHBOUR: 'it returns false'. Refute it at one input. -/
def lawS2218BDistinctWrong : ChangeSpec := { name := "lawS2218BDistinct", fn := fun _ => fun
  | [d1, d2] => { results := [.lit (.bool false)], args := [d1, d2] }
  | _ => none }
def LawS2218BDistinctWrongFalsely : Prop := lawS2218BDistinctRow.holds Yba.pinned (OpenSpec.ofChange lawS2218BDistinctWrong)

end Rows
end Go.Proofs.Ybulkasxi

/-
  No cell of these rows narrows 'for every input' (looked for: loops, veiled, ifaces, maps, wideKeys, modest, calm, conditions, laid).
  DERIVED. THE GIVEN ROWS OF THIS SEAT. 3 by the template 'for every input the law returns true; each argument reads behind the call as it read before'; 0 by the template 'total and deterministic' (their statements: YbulkaswgTotals.lean).
  GIVEN WITH THE SEED: the statements are not yours to turn. If you find one false, say at which input.
  Laid BY PROGRAM, IN A SANDBOX (cutbox-rows.mjs): the forced cells as the released guide's own fill.sh prints them over the translation 0cde879399cd535e… (all of the seat's roots in one cut). By AI agents, Wed Nov 11 2026. No macro, syntax, notation, axiom, sorry.
-/
import Derived.Test.YbulkaswgChecked
import GoSem.Claim
import GoSem.ClaimJoined
import GoSem.ClaimMapViews
import Derived.JoinedTies
import Derived.KernelRfl
namespace Go.Proofs.Ybulkaswg
/- THE CELL 'sum', in the pinned program and in every row, IS THE sha256 OF THE DUMP (.gsa) THAT YbulkaswgProg.lean LOADS. Nothing in Lean hashes anything: it is a label: what it is worth is what the hold of that sum in a sandbox is worth. -/
noncomputable def Yba.pinned : Pinned := { name := "ybulkaswg", sum := "0cde879399cd535e2052a93ac42c0ad9ac300e30207d69b5c357d49a50b1a1b3", checked := Yba.checked }
namespace Rows
def none {H : Type} : Left H := { results := [], args := [] }

/-- 'resolvent.LawS2216AFloor': WHATEVER THE INPUT: true; the input reads as it did. -/
def lawS2216AFloorSpec : ChangeSpec := { name := "lawS2216AFloor", fn := fun _ => fun
  | [d1, d2, d3] => { results := [.lit (.bool true)], args := [d1, d2, d3] }
  | _ => none }
def lawS2216AFloorRow : OpenClaim := { program := "ybulkaswg", sum := "0cde879399cd535e2052a93ac42c0ad9ac300e30207d69b5c357d49a50b1a1b3", func := "example.com/resolvent/resolvent.LawS2216AFloor", spec := "lawS2216AFloor", inPlace := ["sync/atomic.LoadPointer", "sync/atomic.StorePointer"], unfollowed := true, recurses := true, apart := false }
def LawS2216AFloorSaid : Prop := lawS2216AFloorRow.holds Yba.pinned (OpenSpec.ofChange lawS2216AFloorSpec)

/-- ITS FALSE NEIGHBOUR: 'it returns false'. Refute it at one input. -/
def lawS2216AFloorWrong : ChangeSpec := { name := "lawS2216AFloor", fn := fun _ => fun
  | [d1, d2, d3] => { results := [.lit (.bool false)], args := [d1, d2, d3] }
  | _ => none }
def LawS2216AFloorWrongFalsely : Prop := lawS2216AFloorRow.holds Yba.pinned (OpenSpec.ofChange lawS2216AFloorWrong)

/-- 'resolvent.LawS2216BScript': WHATEVER THE INPUT: true; the input reads as it did. -/
def lawS2216BScriptSpec : ChangeSpec := { name := "lawS2216BScript", fn := fun _ => fun
  | [d] => { results := [.lit (.bool true)], args := [d] }
  | _ => none }
def lawS2216BScriptRow : OpenClaim := { program := "ybulkaswg", sum := "0cde879399cd535e2052a93ac42c0ad9ac300e30207d69b5c357d49a50b1a1b3", func := "example.com/resolvent/resolvent.LawS2216BScript", spec := "lawS2216BScript", apart := false }
def LawS2216BScriptSaid : Prop := lawS2216BScriptRow.holds Yba.pinned (OpenSpec.ofChange lawS2216BScriptSpec)

/-- ITS FALSE NEIGHBOUR: 'it returns false'. Refute it at one input. -/
def lawS2216BScriptWrong : ChangeSpec := { name := "lawS2216BScript", fn := fun _ => fun
  | [d] => { results := [.lit (.bool false)], args := [d] }
  | _ => none }
def LawS2216BScriptWrongFalsely : Prop := lawS2216BScriptRow.holds Yba.pinned (OpenSpec.ofChange lawS2216BScriptWrong)

/-- 'resolvent.LawS2216BStepFrom': WHATEVER THE INPUT: true; the input reads as it did. -/
def lawS2216BStepFromSpec : ChangeSpec := { name := "lawS2216BStepFrom", fn := fun _ => fun
  | [d1, d2, d3, d4, d5, d6, d7, d8, d9] => { results := [.lit (.bool true)], args := [d1, d2, d3, d4, d5, d6, d7, d8, d9] }
  | _ => none }
def lawS2216BStepFromRow : OpenClaim := { program := "ybulkaswg", sum := "0cde879399cd535e2052a93ac42c0ad9ac300e30207d69b5c357d49a50b1a1b3", func := "example.com/resolvent/resolvent.LawS2216BStepFrom", spec := "lawS2216BStepFrom", apart := false }
def LawS2216BStepFromSaid : Prop := lawS2216BStepFromRow.holds Yba.pinned (OpenSpec.ofChange lawS2216BStepFromSpec)

/-- ITS FALSE NEIGHBOUR: 'it returns false'. Refute it at one input. -/
def lawS2216BStepFromWrong : ChangeSpec := { name := "lawS2216BStepFrom", fn := fun _ => fun
  | [d1, d2, d3, d4, d5, d6, d7, d8, d9] => { results := [.lit (.bool false)], args := [d1, d2, d3, d4, d5, d6, d7, d8, d9] }
  | _ => none }
def LawS2216BStepFromWrongFalsely : Prop := lawS2216BStepFromRow.holds Yba.pinned (OpenSpec.ofChange lawS2216BStepFromWrong)

end Rows
end Go.Proofs.Ybulkaswg

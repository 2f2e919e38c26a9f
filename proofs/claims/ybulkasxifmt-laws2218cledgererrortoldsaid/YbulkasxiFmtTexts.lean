/-
  The closed facts for a walk over fmt.Sprintf (function 8), at this program's numbers; the text that it gives.
-/
import Derived.Test.YbulkasxiFmtProg
import Derived.Stop.CallBack
import Derived.Stop.IfaceNil
import Derived.Stop.FmtTextKit
import Derived.KernelRfl
import GoSem.ClaimData
namespace Go.Proofs.YbulkasxiFmt
open Go.Extern.Stop Go.Stop Go.Extern

@[go_sem] theorem call8 (args : Array Value) (w : World) : (callFunc 8 args).run Ybaf.prog w = ((FmtStop.sprintf #[9, 245] #[9] args).run Ybaf.prog w).andThen fun v w' => .ok (.value v) w' :=
  run_callFunc_extern Ybaf.func8 (by kernel_rfl) (by kernel_rfl) (by kernel_rfl) (by kernel_rfl) args w
@[go_sem] theorem guard8 (name : String) (w : World) : (FmtStop.guard name).run Ybaf.prog w = .ok () w := by kernel_rfl

/-- The format's bytes. -/
def fmB : List UInt8 := [116, 104, 105, 115, 32, 98, 101, 114, 116, 104, 32, 115, 101, 114, 118, 101, 44, 32, 111, 102, 32, 116, 101, 114, 109, 32, 37, 100, 44, 32, 105, 115, 32, 115, 117, 112, 101, 114, 115, 101, 100, 101, 100, 32, 98, 121, 32, 116, 101, 114, 109, 32, 37, 100, 44, 32, 119, 104, 105, 99, 104, 32, 97, 32, 99, 97, 108, 108, 101, 114, 32, 119, 97, 115, 32, 97, 110, 115, 119, 101, 114, 101, 100, 32, 119, 105, 116, 104, 58, 32, 105, 116, 32, 112, 108, 97, 99, 101, 115, 32, 110, 111, 116, 104, 105, 110, 103, 44, 32, 97, 110, 100, 32, 104, 97, 110, 100, 115, 32, 110, 111, 32, 111, 114, 100, 101, 114, 32, 116, 111, 32, 97, 110, 121, 32, 110, 111, 100, 101]

@[go_sem] theorem fmt2 : FmtStop.printed? ⟨#[116, 104, 105, 115, 32, 98, 101, 114, 116, 104, 32, 115, 101, 114, 118, 101, 44, 32, 111, 102, 32, 116, 101, 114, 109, 32, 37, 100, 44, 32, 105, 115, 32, 115, 117, 112, 101, 114, 115, 101, 100, 101, 100, 32, 98, 121, 32, 116, 101, 114, 109, 32, 37, 100, 44, 32, 119, 104, 105, 99, 104, 32, 97, 32, 99, 97, 108, 108, 101, 114, 32, 119, 97, 115, 32, 97, 110, 115, 119, 101, 114, 101, 100, 32, 119, 105, 116, 104, 58, 32, 105, 116, 32, 112, 108, 97, 99, 101, 115, 32, 110, 111, 116, 104, 105, 110, 103, 44, 32, 97, 110, 100, 32, 104, 97, 110, 100, 115, 32, 110, 111, 32, 111, 114, 100, 101, 114, 32, 116, 111, 32, 97, 110, 121, 32, 110, 111, 100, 101]⟩ 2 = some [(0, 100, false), (1, 100, false)] := by kernel_rfl
@[go_sem] theorem fmt2r (w : World) : (FmtDoors.printed ⟨#[116, 104, 105, 115, 32, 98, 101, 114, 116, 104, 32, 115, 101, 114, 118, 101, 44, 32, 111, 102, 32, 116, 101, 114, 109, 32, 37, 100, 44, 32, 105, 115, 32, 115, 117, 112, 101, 114, 115, 101, 100, 101, 100, 32, 98, 121, 32, 116, 101, 114, 109, 32, 37, 100, 44, 32, 119, 104, 105, 99, 104, 32, 97, 32, 99, 97, 108, 108, 101, 114, 32, 119, 97, 115, 32, 97, 110, 115, 119, 101, 114, 101, 100, 32, 119, 105, 116, 104, 58, 32, 105, 116, 32, 112, 108, 97, 99, 101, 115, 32, 110, 111, 116, 104, 105, 110, 103, 44, 32, 97, 110, 100, 32, 104, 97, 110, 100, 115, 32, 110, 111, 32, 111, 114, 100, 101, 114, 32, 116, 111, 32, 97, 110, 121, 32, 110, 111, 100, 101]⟩ 2).run Ybaf.prog w = .ok [(0, 100, false), (1, 100, false)] w := by kernel_rfl

def shape2 : List UInt8 := [5, 5, 0, 0, 0, 0, 0, 0, 0, 105, 110, 116, 54, 52]
@[go_sem] theorem op2_100 (name : String) (x : Int) (w : World) : (FmtStop.operand name false 100 false (.iface 2 (.int .i64 x))).run Ybaf.prog w = .ok (shape2, Go.Extern.Stop.digits 8 (x % 2 ^ 64).toNat) w := by kernel_rfl

end Go.Proofs.YbulkasxiFmt

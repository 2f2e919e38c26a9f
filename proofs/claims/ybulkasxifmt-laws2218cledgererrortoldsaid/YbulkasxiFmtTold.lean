/-
  The text that fmt gives: its bytes, and that it is short.
-/
import Derived.Test.YbulkasxiFmtLaws
import Derived.ProofKit
import Derived.Stop.JoinedAt
import Derived.Stop.Texts
import Derived.Stop.JoinedTold
import Derived.Stop.FmtQuoteTie
import Derived.Stop.FmtTextKit
import Derived.SizedLaws
namespace Go.Proofs.YbulkasxiFmt
open Go.RowKit Go.Kit Go.Extern.Stop Go.Stop Go.Extern

def p1 : List UInt8 := [116, 104, 105, 115, 32, 98, 101, 114, 116, 104, 32, 115, 101, 114, 118, 101, 44, 32, 111, 102, 32, 116, 101, 114, 109, 32]
def p2 : List UInt8 := [44, 32, 105, 115, 32, 115, 117, 112, 101, 114, 115, 101, 100, 101, 100, 32, 98, 121, 32, 116, 101, 114, 109, 32]
def p3 : List UInt8 := [44, 32, 119, 104, 105, 99, 104, 32, 97, 32, 99, 97, 108, 108, 101, 114, 32, 119, 97, 115, 32, 97, 110, 115, 119, 101, 114, 101, 100, 32, 119, 105, 116, 104, 58, 32, 105, 116, 32, 112, 108, 97, 99, 101, 115, 32, 110, 111, 116, 104, 105, 110, 103, 44, 32, 97, 110, 100, 32, 104, 97, 110, 100, 115, 32, 110, 111, 32, 111, 114, 100, 101, 114, 32, 116, 111, 32, 97, 110, 121, 32, 110, 111, 100, 101]

set_option maxRecDepth 100000 in
theorem t_parse : (FmtText.parse fmB).map FmtText.glue = some [.lit p1, .verb {} 100, .lit p2, .verb {} 100, .lit p3] := by kernel_rfl

def tText (t y : Int) : List UInt8 := p1 ++ (Lib.itoa t ++ (p2 ++ (Lib.itoa y ++ p3)))

theorem t_text (t y : Int) (ht : (Lit.int .i64 t).wf = true) (hy : (Lit.int .i64 y).wf = true) : FmtText.text "fmt.Sprintf" (reading t y) = some (tText t y) := by
  have h1 := FmtText.operand_int_at (sh := shape2) (k := .i64) rfl rfl t ht
  have h2 := FmtText.operand_int_at (sh := shape2) (k := .i64) rfl rfl y hy
  rw [reading, FmtText.text_sprintf_glued t_parse (FmtText.operands_cons h1 (FmtText.operands_cons h2 FmtText.operands_nil))]
  simp [FmtText.render, FmtText.printArg_d _ _ ht, FmtText.printArg_d _ _ hy, tText]

theorem tText_le (t y : Int) (ht : (Lit.int .i64 t).wf = true) (hy : (Lit.int .i64 y).wf = true) : (tText t y).length ≤ 4096 := by
  have h1 := FmtText.itoa_length_le ht
  have h2 := FmtText.itoa_length_le hy
  have e1 : p1.length = 26 := by decide
  have e2 : p2.length = 24 := by decide
  have e3 : p3.length = 85 := by decide
  simp only [tText, List.length_append]
  omega

theorem msg_le (F : Interp) (t y : Int) (ht : (Lit.int .i64 t).wf = true) (hy : (Lit.int .i64 y).wf = true) : (msg F.told t y).size ≤ 4096 := by
  have hl := tText_le t y ht hy
  have h := told_string F (t_text t y ht hy) (by omega)
  have e : (msg F.told t y).data.toList = tText t y := by
    unfold msg
    rw [textOf_list, h]
  have : (msg F.told t y).size = (msg F.told t y).data.toList.length := by simp
  rw [this, e]
  exact hl

end Go.Proofs.YbulkasxiFmt

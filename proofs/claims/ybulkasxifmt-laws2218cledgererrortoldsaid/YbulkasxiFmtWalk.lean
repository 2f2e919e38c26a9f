/-
  The contracts of (*SupersededError).Error (7), supersession (5), zzs2218csuffix (6).
-/
import Derived.Test.YbulkasxiFmtTexts
import Derived.WalkKit
import Derived.WalkSpells
import Derived.WalkLawsBesides
import Derived.Deep.RegionWith
namespace Go.Proofs.YbulkasxiFmt
open Go.RowKit Go.Extern.Stop Go.Stop Go.Extern

set_option linter.unusedVariables false

theorem hide {p : Prop} (h : p) : Hid p := h

/-- What fmt is asked. -/
def reading (t y : Int) : List (List UInt8) := [fmB, shape2, digits 8 (t % 18446744073709551616).toNat, shape2, digits 8 (y % 18446744073709551616).toNat]
/-- The message. -/
def msg (F : Interp) (t y : Int) : ByteArray := FmtStop.textOf (F "fmt.Sprintf" (reading t y) 0)

set_option maxRecDepth 100000 in
set_option maxHeartbeats 400000 in
theorem error_any (F : Interp) (b : Nat) (t y : Int) (w : World) (hF : F.answers w.tape) (c0 : w.cell? ⟨b, 0, none⟩ = some (.int .i64 t)) (c1 : w.cell? ⟨b, 1, none⟩ = some (.int .i64 y)) :
    Calls Ybaf.prog 7 #[.pointer (some ⟨b, 0, none⟩)] w fun e w' => e = .returned (.string (msg F t y)) ∧ Below w.heap.size w w' := by
  have hF' := answers_open hF
  go_enter Ybaf.func7, Ybaf.ntmps7
  go_wp2
  go_region
  go_wp2
  go_ret
  exact ⟨rfl, (((Below.refl _ _).alloc (Nat.le_refl _) _).drew).drew⟩

/-- The clause on the hand-over. -/
def sufB : ByteArray := ⟨#[59, 32, 105, 116, 32, 104, 97, 100, 32, 104, 97, 110, 100, 101, 100, 32, 105, 116, 115, 32, 115, 116, 97, 116, 101, 32, 111, 118, 101, 114, 32, 116, 111, 32, 116, 104, 101, 32, 98, 101, 114, 116, 104, 32, 115, 101, 114, 118, 101, 32, 97, 116, 32]⟩

set_option maxRecDepth 100000 in
set_option maxHeartbeats 400000 in
theorem suffix_any (w : World) : Calls Ybaf.prog 6 #[] w fun e w' => e = .returned (.string sufB) ∧ w' = w := by
  go_enter Ybaf.func6, Ybaf.ntmps6
  go_wp2
  go_ret
  exact ⟨rfl, rfl⟩

theorem cell_alloc {w : World} {a : Addr} {v : Value} (h : w.cell? a = some v) (o : Obj) : (w.alloc o).cell? a = some v :=
  (World.cell?_of_block (w := w) (Below.heap_alloc _ _ _ (World.block_lt_of_cell? w a h))).trans h

set_option maxRecDepth 100000 in
set_option maxHeartbeats 400000 in
theorem sup_empty (F : Interp) (h : Nat) (t y : Int) (act : ByteArray) (w : World) (hF : F.answers w.tape) (c6 : w.cell? ⟨h, 6, none⟩ = some (.int .i64 t)) (c9 : w.cell? ⟨h, 9, none⟩ = some (.int .i64 y))
    (c4 : w.cell? ⟨h, 4, none⟩ = some (.string act)) (ha : act.size ≤ 4096) (hm : (msg F t y).size ≤ 4096) (he : act.toList.isEmpty = true) :
    Calls Ybaf.prog 5 #[.pointer (some ⟨h, 0, none⟩)] w fun e w' => e = .returned (.string (msg F t y)) ∧ Below w.heap.size w w' := by
  have hlt : h < w.heap.size := World.block_lt_of_cell? w _ c4
  go_enter Ybaf.func5, Ybaf.ntmps5
  go_wp2_with fail
  go_region_with (go_at_call 7; refine (error_any F _ t y _ ?_ ?_ ?_).mono ?_; exact hF; simp; simp; rintro e w1 ⟨rfl, hb1⟩)
  all_goals
    have c4' : w1.cell? ⟨h, 4, none⟩ = some (.string act) := (hb1.cell (p := ⟨h, 4, none⟩) (by simp; omega)).trans (cell_alloc c4 _)
    have hfin := hide ((((Below.refl w.heap.size w).alloc (Nat.le_refl _) (.cells #[.int .i64 t, .int .i64 y] 47)).drew).trans (hb1.mono (by simp)))
    clear hb1
    go_wp2_with fail
    go_ret
    exact ⟨rfl, hfin.out⟩

set_option maxRecDepth 100000 in
set_option maxHeartbeats 400000 in
theorem sup_full (F : Interp) (h : Nat) (t y : Int) (act : ByteArray) (w : World) (hF : F.answers w.tape) (c6 : w.cell? ⟨h, 6, none⟩ = some (.int .i64 t)) (c9 : w.cell? ⟨h, 9, none⟩ = some (.int .i64 y))
    (c4 : w.cell? ⟨h, 4, none⟩ = some (.string act)) (ha : act.size ≤ 4096) (hm : (msg F t y).size ≤ 4096) (he : act.toList.isEmpty = false) :
    Calls Ybaf.prog 5 #[.pointer (some ⟨h, 0, none⟩)] w fun e w' => e = .returned (.string (msg F t y ++ (sufB ++ act))) ∧ Below w.heap.size w w' := by
  have hlt : h < w.heap.size := World.block_lt_of_cell? w _ c4
  go_enter Ybaf.func5, Ybaf.ntmps5
  go_wp2_with fail
  go_region_with (go_at_call 7; refine (error_any F _ t y _ ?_ ?_ ?_).mono ?_; exact hF; simp; simp; rintro e w1 ⟨rfl, hb1⟩)
  all_goals
    have c4' : w1.cell? ⟨h, 4, none⟩ = some (.string act) := (hb1.cell (p := ⟨h, 4, none⟩) (by simp; omega)).trans (cell_alloc c4 _)
    have hfin := hide ((((Below.refl w.heap.size w).alloc (Nat.le_refl _) (.cells #[.int .i64 t, .int .i64 y] 47)).drew).trans (hb1.mono (by simp)))
    clear hb1
    go_wp2_with fail
    go_ret
    exact ⟨rfl, hfin.out⟩

end Go.Proofs.YbulkasxiFmt

/-
  (*player).createAnswered (5): its contract; how a player is built.
-/
import Derived.Test.YbulkasxiProg
import Derived.WalkKit
import Derived.WalkSpells
import Derived.BigQuiet
namespace Go.Proofs.Ybulkasxi
open Go.RowKit

theorem hide {p : Prop} (h : p) : Hid p := h

set_option maxHeartbeats 400000 in
theorem ans_true (P L : Nat) (w : World) (c : w.cell? ⟨L, 3, none⟩ = some (.bool true)) :
    Calls Yba.prog 5 #[.pointer (some ⟨P, 0, none⟩), .pointer (some ⟨L, 0, none⟩)] w fun e w' => e = .returned (.tuple #[]) ∧ w' = w := by
  go_enter Yba.func5, Yba.ntmps5
  go_wp2
  go_end0
  exact ⟨rfl, rfl⟩

set_option maxHeartbeats 400000 in
theorem ans_false (P L : Nat) (a : Int) (w : World) (_hne : P ≠ L) (c : w.cell? ⟨L, 3, none⟩ = some (.bool false)) (f : w.frozen? ⟨L, 3, none⟩ = false) (cp : w.cell? ⟨P, 33, none⟩ = some (.int .i64 a)) (fp : w.frozen? ⟨P, 33, none⟩ = false) :
    Calls Yba.prog 5 #[.pointer (some ⟨P, 0, none⟩), .pointer (some ⟨L, 0, none⟩)] w fun e w' => e = .returned (.tuple #[]) ∧ w' = (w.setCell ⟨L, 3, none⟩ (.bool true)).setCell ⟨P, 33, none⟩ (.int .i64 (wrap64 (a + 1))) := by
  go_enter Yba.func5, Yba.ntmps5
  go_wp2
  go_end0
  exact ⟨rfl, rfl⟩

/-- A player is built: all zero but 'answered'. -/
theorem build48 (a : Int) : ∃ cs : Array Value, (∀ w : World, (Instr.build 48 #[(26, .int .i64 a)]).run Yba.prog w = .ok (.agg cs) w) ∧ cs[33]? = some (.int .i64 a) ∧ cs.size = 42 :=
  ⟨(Yba.prog.built 48 [(26, .int .i64 a)]).getD #[], fun w => run_build w 48 _ _ (by kernel_rfl), by kernel_rfl, by kernel_rfl⟩
theorem build48z : ∃ cs : Array Value, (∀ w : World, (Instr.build 48 #[]).run Yba.prog w = .ok (.agg cs) w) ∧ cs[33]? = some (.int .i64 0) ∧ cs.size = 42 :=
  ⟨(Yba.prog.built 48 []).getD #[], fun w => run_build w 48 _ _ (by kernel_rfl), by kernel_rfl, by kernel_rfl⟩
theorem build51 (b : Bool) (w : World) : (Instr.build 51 #[(3, .bool b)]).run Yba.prog w = .ok (.agg #[.string ⟨#[]⟩, .int .i64 0, .int .i64 0, .bool b]) w := run_build w 51 _ _ (by kernel_rfl)

/-- A struct built of one part, by its run's equation: a law at the operation. -/
theorem wpList_build1 {P : Program} (w : World) {ops : Array Oper} {rest : List Oper} {o : Oper} {a : Act} {Q : Exit → Act → World → Prop}
    (hg : o.guard = none) (t : TypeId) (i : Nat) (x : Operand) (hop : o.op = Op.build t #[(i, x)]) (u : Value) (hx : a.eval x = u) (v : Value)
    (hrun : (Instr.build t #[(i, u)]).run P w = .ok v w) (hK : wpList P ops Q rest (a.put o.dst v) w) : wpList P ops Q (o :: rest) a w := by
  refine wpList_plain hg fun K' hK' => ?_
  unfold Oper.wp
  simp [execOp, hop, hx, hrun, Result.andThen]
  exact hK' _ _ hK
/-- .. of no part. -/
theorem wpList_build0 {P : Program} (w : World) {ops : Array Oper} {rest : List Oper} {o : Oper} {a : Act} {Q : Exit → Act → World → Prop}
    (hg : o.guard = none) (t : TypeId) (hop : o.op = Op.build t #[]) (v : Value)
    (hrun : (Instr.build t #[]).run P w = .ok v w) (hK : wpList P ops Q rest (a.put o.dst v) w) : wpList P ops Q (o :: rest) a w := by
  refine wpList_plain hg fun K' hK' => ?_
  unfold Oper.wp
  simp [execOp, hop, hrun, Result.andThen]
  exact hK' _ _ hK

theorem run_box48 (cs : Array Value) (w : World) : (Instr.box 48 (.agg cs)).run Yba.prog w = .ok (.pointer (some ⟨w.heap.size, 0, none⟩)) (w.alloc (.cells cs 48)) := by
  simp [Instr.box, newVar, newRow, Value.cells]

/-- A box, by its run's equation: a law at the operation. -/
theorem wpList_box {P : Program} (w : World) {ops : Array Oper} {rest : List Oper} {o : Oper} {a : Act} {Q : Exit → Act → World → Prop}
    (hg : o.guard = none) (t : TypeId) (x : Operand) (hop : o.op = Op.box t x) (u : Value) (hx : a.eval x = u) (v : Value) (w' : World)
    (hrun : (Instr.box t u).run P w = .ok v w') (hK : wpList P ops Q rest (a.put o.dst v) w') : wpList P ops Q (o :: rest) a w := by
  refine wpList_plain hg fun K' hK' => ?_
  unfold Oper.wp
  simp [execOp, hop, hx, hrun, Result.andThen]
  exact hK' _ _ hK

/-- The two boxes laid: what is there. -/
theorem boxes {w W1 : World} {cs : Array Value} {a : Int} {b : Bool} (h33 : cs[33]? = some (.int .i64 a)) (hW : (w.alloc (.cells cs 48)).alloc (.cells #[.string ⟨#[]⟩, .int .i64 0, .int .i64 0, .bool b] 51) = W1) :
    W1.cell? ⟨w.heap.size, 33, none⟩ = some (.int .i64 a) ∧ W1.frozen? ⟨w.heap.size, 33, none⟩ = false ∧ W1.cell? ⟨w.heap.size + 1, 3, none⟩ = some (.bool b) ∧ W1.frozen? ⟨w.heap.size + 1, 3, none⟩ = false ∧ Grown w W1 := by
  subst hW
  have e0 : ((w.alloc (.cells cs 48)).alloc (.cells #[.string ⟨#[]⟩, .int .i64 0, .int .i64 0, .bool b] 51)).heap[w.heap.size]? = some (.cells cs 48 (0, 0)) :=
    (Below.heap_alloc _ _ _ (by simp)).trans (MapKept.heap_alloc w _).1
  have e1 : ((w.alloc (.cells cs 48)).alloc (.cells #[.string ⟨#[]⟩, .int .i64 0, .int .i64 0, .bool b] 51)).heap[w.heap.size + 1]? = some (.cells #[.string ⟨#[]⟩, .int .i64 0, .int .i64 0, .bool b] 51 (0, 0)) := by
    have := (MapKept.heap_alloc (w.alloc (.cells cs 48)) (.cells #[.string ⟨#[]⟩, .int .i64 0, .int .i64 0, .bool b] 51)).1
    rw [World.size_alloc] at this
    exact this
  refine ⟨?_, ?_, ?_, ?_, ((Grown.refl _).alloc _ _).alloc _ _⟩
  · simp only [World.cell?, e0]; simpa using h33
  · simp [World.frozen?, e0]
  · simp only [World.cell?, e1]; rfl
  · simp only [World.frozen?, e1]; rfl

set_option maxRecDepth 100000 in
set_option maxHeartbeats 400000 in
theorem counts_true (a0 : Int) (w : World) :
    Calls Yba.prog 3 #[.int .i64 a0, .bool true] w fun e w' => e = .returned (.bool true) ∧ Grown w w' := by
  obtain ⟨cs, hb, h33, hsz⟩ := build48 a0
  have hb51 := build51
  go_enter Yba.func3, Yba.ntmps3
  go_wp2_with (first | (with_reducible refine wpList_build1 _ rfl 48 26 _ rfl _ (by with_unfolding_all rfl) (.agg cs) (hb _) ?_) | (with_reducible refine wpList_box _ rfl 48 _ rfl (.agg cs) (by with_unfolding_all rfl) _ _ (run_box48 cs _) ?_))
  generalize hW1 : (w.alloc (.cells cs 48)).alloc (.cells #[.string ⟨#[]⟩, .int .i64 0, .int .i64 0, .bool true] 51) = W1
  obtain ⟨c0, f0, c1, f1, hg⟩ := boxes h33 hW1
  clear hW1 hb h33
  refine (ans_true _ _ W1 c1).mono ?_
  rintro e w' ⟨rfl, rfl⟩
  go_wp2_with (go_at_call 5; refine (ans_true _ _ _ c1).mono ?_; rintro e w'' ⟨rfl, rfl⟩)
  go_ret
  exact ⟨rfl, hg⟩

set_option maxRecDepth 100000 in
set_option maxHeartbeats 400000 in
theorem counts_false (a0 : Int) (w : World) :
    Calls Yba.prog 3 #[.int .i64 a0, .bool false] w fun e w' => e = .returned (.bool true) ∧ Grown w w' := by
  obtain ⟨cs, hb, h33, hsz⟩ := build48 a0
  have hb51 := build51
  go_enter Yba.func3, Yba.ntmps3
  go_wp2_with (first | (with_reducible refine wpList_build1 _ rfl 48 26 _ rfl _ (by with_unfolding_all rfl) (.agg cs) (hb _) ?_) | (with_reducible refine wpList_box _ rfl 48 _ rfl (.agg cs) (by with_unfolding_all rfl) _ _ (run_box48 cs _) ?_))
  generalize hW1 : (w.alloc (.cells cs 48)).alloc (.cells #[.string ⟨#[]⟩, .int .i64 0, .int .i64 0, .bool false] 51) = W1
  obtain ⟨c0, f0, c1, f1, hg⟩ := boxes h33 hW1
  clear hW1 hb h33
  refine (ans_false _ _ a0 W1 (by omega) c1 f1 c0 f0).mono ?_
  rintro e w' ⟨rfl, hw'⟩
  have q1 : w'.cell? ⟨w.heap.size + 1, 3, none⟩ = some (.bool true) := by
    rw [hw', World.cell?_setCell_other _ _ _ _ (by simp)]
    exact World.cell?_setCell_same _ _ _ c1
  have q0 : w'.cell? ⟨w.heap.size, 33, none⟩ = some (.int .i64 (wrap64 (a0 + 1))) := by
    rw [hw']
    exact World.cell?_setCell_same (u := .int .i64 a0) _ _ _ (by rw [World.cell?_setCell_other _ _ _ _ (by simp)]; exact c0)
  have hg' := hide ((hg.setCell (a := ⟨w.heap.size + 1, 3, none⟩) (by simp) (.bool true)).setCell (a := ⟨w.heap.size, 33, none⟩) (by simp) (.int .i64 (wrap64 (a0 + 1))))
  rw [← hw'] at hg'
  clear hw' c0 c1 f0 f1 hg
  go_wp2_with (go_at_call 5; refine (ans_true _ _ _ q1).mono ?_; rintro e w'' ⟨rfl, rfl⟩)
  go_ret
  exact ⟨rfl, hg'.out⟩

end Go.Proofs.Ybulkasxi

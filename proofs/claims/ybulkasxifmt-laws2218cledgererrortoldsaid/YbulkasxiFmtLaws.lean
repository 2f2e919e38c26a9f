/-
  LawS2218CHandOver (3), LawS2218CLedgerError (4): the walks.
-/
import Derived.Test.YbulkasxiFmtWalk
namespace Go.Proofs.YbulkasxiFmt
open Go.RowKit Go.Extern.Stop Go.Stop Go.Extern
set_option linter.unusedVariables false

/-- A handler is built: its cells that matter. -/
theorem build42a (t y : Int) : ∃ cs : Array Value, (∀ w : World, (Instr.build 42 #[(6, .int .i64 t), (9, .int .i64 y)]).run Ybaf.prog w = .ok (.agg cs) w) ∧ cs[6]? = some (.int .i64 t) ∧ cs[9]? = some (.int .i64 y) ∧ cs[4]? = some (.string ⟨#[]⟩) :=
  ⟨(Ybaf.prog.built 42 [(6, .int .i64 t), (9, .int .i64 y)]).getD #[], fun w => run_build w 42 _ _ (by kernel_rfl), by kernel_rfl, by kernel_rfl, by kernel_rfl⟩
theorem build42b (t y : Int) (act : ByteArray) : ∃ cs : Array Value, (∀ w : World, (Instr.build 42 #[(6, .int .i64 t), (9, .int .i64 y), (4, .string act)]).run Ybaf.prog w = .ok (.agg cs) w) ∧ cs[6]? = some (.int .i64 t) ∧ cs[9]? = some (.int .i64 y) ∧ cs[4]? = some (.string act) :=
  ⟨(Ybaf.prog.built 42 [(6, .int .i64 t), (9, .int .i64 y), (4, .string act)]).getD #[], fun w => run_build w 42 _ _ (by kernel_rfl), by kernel_rfl, by kernel_rfl, by kernel_rfl⟩

/-- A struct built of two parts, by its run's equation: a law at the operation. -/
theorem wpList_build2 {P : Program} (w : World) {ops : Array Oper} {rest : List Oper} {o : Oper} {a : Act} {Q : Exit → Act → World → Prop}
    (hg : o.guard = none) (t : TypeId) (i j : Nat) (x z : Operand) (hop : o.op = Op.build t #[(i, x), (j, z)]) (u s : Value) (hx : a.eval x = u) (hz : a.eval z = s) (v : Value)
    (hrun : (Instr.build t #[(i, u), (j, s)]).run P w = .ok v w) (hK : wpList P ops Q rest (a.put o.dst v) w) : wpList P ops Q (o :: rest) a w := by
  refine wpList_plain hg fun K' hK' => ?_
  unfold Oper.wp
  simp [execOp, hop, hx, hz, hrun, Result.andThen]
  exact hK' _ _ hK
theorem wpList_build3 {P : Program} (w : World) {ops : Array Oper} {rest : List Oper} {o : Oper} {a : Act} {Q : Exit → Act → World → Prop}
    (hg : o.guard = none) (t : TypeId) (i j k : Nat) (x z y : Operand) (hop : o.op = Op.build t #[(i, x), (j, z), (k, y)]) (u s r : Value) (hx : a.eval x = u) (hz : a.eval z = s) (hy : a.eval y = r) (v : Value)
    (hrun : (Instr.build t #[(i, u), (j, s), (k, r)]).run P w = .ok v w) (hK : wpList P ops Q rest (a.put o.dst v) w) : wpList P ops Q (o :: rest) a w := by
  refine wpList_plain hg fun K' hK' => ?_
  unfold Oper.wp
  simp [execOp, hop, hx, hz, hy, hrun, Result.andThen]
  exact hK' _ _ hK
theorem run_box42 (cs : Array Value) (w : World) : (Instr.box 42 (.agg cs)).run Ybaf.prog w = .ok (.pointer (some ⟨w.heap.size, 0, none⟩)) (w.alloc (.cells cs 42)) := by
  simp [Instr.box, newVar, newRow, Value.cells]
theorem wpList_box {P : Program} (w : World) {ops : Array Oper} {rest : List Oper} {o : Oper} {a : Act} {Q : Exit → Act → World → Prop}
    (hg : o.guard = none) (t : TypeId) (x : Operand) (hop : o.op = Op.box t x) (u : Value) (hx : a.eval x = u) (v : Value) (w' : World)
    (hrun : (Instr.box t u).run P w = .ok v w') (hK : wpList P ops Q rest (a.put o.dst v) w') : wpList P ops Q (o :: rest) a w := by
  refine wpList_plain hg fun K' hK' => ?_
  unfold Oper.wp
  simp [execOp, hop, hx, hrun, Result.andThen]
  exact hK' _ _ hK

theorem cell_new (w : World) (cs : Array Value) (t : TypeId) (i : Nat) (v : Value) (h : cs[i]? = some v) : (w.alloc (.cells cs t)).cell? ⟨w.heap.size, i, none⟩ = some v := by
  simp only [World.cell?, (MapKept.heap_alloc w (.cells cs t)).1]
  simpa using h

theorem empty_isEmpty : (⟨#[]⟩ : ByteArray).toList.isEmpty = true := by kernel_rfl

theorem two_boxes {w W1 : World} {cs0 cs1 : Array Value} {t y : Int} {a0 a1 : ByteArray} (hW : (w.alloc (.cells cs0 42)).alloc (.cells cs1 42) = W1)
    (p06 : cs0[6]? = some (.int .i64 t)) (p09 : cs0[9]? = some (.int .i64 y)) (p04 : cs0[4]? = some (.string a0)) (p16 : cs1[6]? = some (.int .i64 t)) (p19 : cs1[9]? = some (.int .i64 y)) (p14 : cs1[4]? = some (.string a1)) :
    (W1.cell? ⟨w.heap.size, 6, none⟩ = some (.int .i64 t) ∧ W1.cell? ⟨w.heap.size, 9, none⟩ = some (.int .i64 y) ∧ W1.cell? ⟨w.heap.size, 4, none⟩ = some (.string a0)) ∧
    (W1.cell? ⟨w.heap.size + 1, 6, none⟩ = some (.int .i64 t) ∧ W1.cell? ⟨w.heap.size + 1, 9, none⟩ = some (.int .i64 y) ∧ W1.cell? ⟨w.heap.size + 1, 4, none⟩ = some (.string a1)) ∧
    Below w.heap.size w W1 ∧ W1.tape = w.tape ∧ W1.heap.size = w.heap.size + 2 := by
  subst hW
  have hs : (w.alloc (.cells cs0 42)).heap.size = w.heap.size + 1 := World.size_alloc _ _
  refine ⟨⟨cell_alloc (cell_new w cs0 42 6 _ p06) _, cell_alloc (cell_new w cs0 42 9 _ p09) _, cell_alloc (cell_new w cs0 42 4 _ p04) _⟩, ⟨?_, ?_, ?_⟩, ((Below.refl _ _).alloc (Nat.le_refl _) _).alloc (by omega) _, rfl, by rw [World.size_alloc, hs]⟩
  · have := cell_new (w.alloc (.cells cs0 42)) cs1 42 6 _ p16
    rw [hs] at this; exact this
  · have := cell_new (w.alloc (.cells cs0 42)) cs1 42 9 _ p19
    rw [hs] at this; exact this
  · have := cell_new (w.alloc (.cells cs0 42)) cs1 42 4 _ p14
    rw [hs] at this; exact this

set_option maxHeartbeats 400000 in
theorem hand_long (t y : Int) (act : ByteArray) (w : World) (ha : 4096 < act.size) :
    Calls Ybaf.prog 3 #[.int .i64 t, .int .i64 y, .string act] w fun e w' => e = .returned (.bool true) ∧ Below w.heap.size w w' := by
  go_enter Ybaf.func3, Ybaf.ntmps3
  go_wp2_with fail
  go_ret
  exact ⟨rfl, Below.refl _ _⟩

set_option maxRecDepth 100000 in
set_option maxHeartbeats 1000000 in
theorem hand_empty (F : Interp) (t y : Int) (act : ByteArray) (w : World) (hF : F.answers w.tape) (ha : act.size ≤ 4096) (hm : (msg F t y).size ≤ 4096) (he : act.toList.isEmpty = true) :
    Calls Ybaf.prog 3 #[.int .i64 t, .int .i64 y, .string act] w fun e w' => e = .returned (.bool true) ∧ Below w.heap.size w w' := by
  obtain ⟨cs0, hb0, p06, p09, p04⟩ := build42a t y
  obtain ⟨cs1, hb1, p16, p19, p14⟩ := build42b t y act
  go_enter Ybaf.func3, Ybaf.ntmps3
  go_wp2_with (first | (with_reducible refine wpList_build2 _ rfl 42 6 9 _ _ rfl _ _ (by with_unfolding_all rfl) (by with_unfolding_all rfl) (.agg cs0) (hb0 _) ?_) | (with_reducible refine wpList_build3 _ rfl 42 6 9 4 _ _ _ rfl _ _ _ (by with_unfolding_all rfl) (by with_unfolding_all rfl) (by with_unfolding_all rfl) (.agg cs1) (hb1 _) ?_) | (with_reducible refine wpList_box _ rfl 42 _ rfl (.agg cs0) (by with_unfolding_all rfl) _ _ (run_box42 cs0 _) ?_) | (with_reducible refine wpList_box _ rfl 42 _ rfl (.agg cs1) (by with_unfolding_all rfl) _ _ (run_box42 cs1 _) ?_))
  generalize hW1 : (w.alloc (.cells cs0 42)).alloc (.cells cs1 42) = W1
  obtain ⟨⟨c06, c09, c04⟩, ⟨c16, c19, c14⟩, hb, ht, hs⟩ := two_boxes hW1 p06 p09 p04 p16 p19 p14
  clear hW1 p06 p09 p04 p16 p19 p14 hb0 hb1
  refine (sup_empty F _ t y _ W1 (by rw [ht]; exact hF) c06 c09 c04 (by decide) hm empty_isEmpty).mono ?_
  rintro e w2 ⟨rfl, hb2⟩
  have ht2 : w2.tape = w.tape := hb2.tape.trans ht
  have d16 := (hb2.cell (p := ⟨w.heap.size + 1, 6, none⟩) (by show w.heap.size + 1 < _; omega)).trans c16
  have d19 := (hb2.cell (p := ⟨w.heap.size + 1, 9, none⟩) (by show w.heap.size + 1 < _; omega)).trans c19
  have d14 := (hb2.cell (p := ⟨w.heap.size + 1, 4, none⟩) (by show w.heap.size + 1 < _; omega)).trans c14
  have hs2 := hb2.size
  have HB := hide (hb.trans (hb2.mono (by omega)))
  clear hb hb2 c06 c09 c04 c16 c19 c14
  go_wp2_with fail
  refine (sup_empty F _ t y _ w2 (by rw [ht2]; exact hF) d16 d19 d14 ha hm he).mono ?_
  rintro e w3 ⟨rfl, hb3⟩
  have HB3 := hide (HB.out.trans (hb3.mono (by omega)))
  clear hb3 ht2 ht hs
  go_wp2_with fail
  go_ret
  exact ⟨rfl, HB3.out⟩

set_option maxRecDepth 100000 in
set_option maxHeartbeats 1000000 in
theorem hand_full (F : Interp) (t y : Int) (act : ByteArray) (w : World) (hF : F.answers w.tape) (ha : act.size ≤ 4096) (hm : (msg F t y).size ≤ 4096) (he : act.toList.isEmpty = false) :
    Calls Ybaf.prog 3 #[.int .i64 t, .int .i64 y, .string act] w fun e w' => e = .returned (.bool true) ∧ Below w.heap.size w w' := by
  obtain ⟨cs0, hb0, p06, p09, p04⟩ := build42a t y
  obtain ⟨cs1, hb1, p16, p19, p14⟩ := build42b t y act
  go_enter Ybaf.func3, Ybaf.ntmps3
  go_wp2_with (first | (with_reducible refine wpList_build2 _ rfl 42 6 9 _ _ rfl _ _ (by with_unfolding_all rfl) (by with_unfolding_all rfl) (.agg cs0) (hb0 _) ?_) | (with_reducible refine wpList_build3 _ rfl 42 6 9 4 _ _ _ rfl _ _ _ (by with_unfolding_all rfl) (by with_unfolding_all rfl) (by with_unfolding_all rfl) (.agg cs1) (hb1 _) ?_) | (with_reducible refine wpList_box _ rfl 42 _ rfl (.agg cs0) (by with_unfolding_all rfl) _ _ (run_box42 cs0 _) ?_) | (with_reducible refine wpList_box _ rfl 42 _ rfl (.agg cs1) (by with_unfolding_all rfl) _ _ (run_box42 cs1 _) ?_))
  generalize hW1 : (w.alloc (.cells cs0 42)).alloc (.cells cs1 42) = W1
  obtain ⟨⟨c06, c09, c04⟩, ⟨c16, c19, c14⟩, hb, ht, hs⟩ := two_boxes hW1 p06 p09 p04 p16 p19 p14
  clear hW1 p06 p09 p04 p16 p19 p14 hb0 hb1
  refine (sup_empty F _ t y _ W1 (by rw [ht]; exact hF) c06 c09 c04 (by decide) hm empty_isEmpty).mono ?_
  rintro e w2 ⟨rfl, hb2⟩
  have ht2 : w2.tape = w.tape := hb2.tape.trans ht
  have d16 := (hb2.cell (p := ⟨w.heap.size + 1, 6, none⟩) (by show w.heap.size + 1 < _; omega)).trans c16
  have d19 := (hb2.cell (p := ⟨w.heap.size + 1, 9, none⟩) (by show w.heap.size + 1 < _; omega)).trans c19
  have d14 := (hb2.cell (p := ⟨w.heap.size + 1, 4, none⟩) (by show w.heap.size + 1 < _; omega)).trans c14
  have hs2 := hb2.size
  have HB := hide (hb.trans (hb2.mono (by omega)))
  clear hb hb2 c06 c09 c04 c16 c19 c14
  go_wp2_with fail
  refine (sup_full F _ t y _ w2 (by rw [ht2]; exact hF) d16 d19 d14 ha hm he).mono ?_
  rintro e w3 ⟨rfl, hb3⟩
  have HB3 := hide (HB.out.trans (hb3.mono (by omega)))
  clear hb3 ht2 ht hs
  have hs5 : sufB.size = 53 := by decide
  have hms : (msg F t y ++ sufB).size ≤ 5000 := by rw [ByteArray.size_append]; omega
  have hassoc : ((msg F t y ++ (sufB ++ act)).toList == (msg F t y ++ sufB ++ act).toList) = true := by rw [ByteArray.append_assoc]; simp
  go_wp2_with (go_at_call 6; refine (suffix_any _).mono ?_; rintro e w' ⟨rfl, rfl⟩)
  go_ret
  exact ⟨rfl, HB3.out⟩

set_option maxHeartbeats 400000 in
theorem led_long (t y : Int) (act : ByteArray) (w : World) (ha : 4096 < act.size) :
    Calls Ybaf.prog 4 #[.int .i64 t, .int .i64 y, .string act] w fun e w' => e = .returned (.bool true) ∧ Below w.heap.size w w' := by
  go_enter Ybaf.func4, Ybaf.ntmps4
  go_wp2_with fail
  go_ret
  exact ⟨rfl, Below.refl _ _⟩

theorem led_boxes {w W1 : World} {cs1 : Array Value} {t y : Int} {a1 : ByteArray} (hW : (w.alloc (.cells cs1 42)).alloc (.cells #[.int .i64 t, .int .i64 y] 47) = W1)
    (p16 : cs1[6]? = some (.int .i64 t)) (p19 : cs1[9]? = some (.int .i64 y)) (p14 : cs1[4]? = some (.string a1)) :
    (W1.cell? ⟨w.heap.size, 6, none⟩ = some (.int .i64 t) ∧ W1.cell? ⟨w.heap.size, 9, none⟩ = some (.int .i64 y) ∧ W1.cell? ⟨w.heap.size, 4, none⟩ = some (.string a1)) ∧
    (W1.cell? ⟨w.heap.size + 1, 0, none⟩ = some (.int .i64 t) ∧ W1.cell? ⟨w.heap.size + 1, 1, none⟩ = some (.int .i64 y)) ∧
    Below w.heap.size w W1 ∧ W1.tape = w.tape ∧ W1.heap.size = w.heap.size + 2 := by
  subst hW
  have hs : (w.alloc (.cells cs1 42)).heap.size = w.heap.size + 1 := World.size_alloc _ _
  refine ⟨⟨cell_alloc (cell_new w cs1 42 6 _ p16) _, cell_alloc (cell_new w cs1 42 9 _ p19) _, cell_alloc (cell_new w cs1 42 4 _ p14) _⟩, ⟨?_, ?_⟩, ((Below.refl _ _).alloc (Nat.le_refl _) _).alloc (by omega) _, rfl, by rw [World.size_alloc, hs]⟩
  · have := cell_new (w.alloc (.cells cs1 42)) #[.int .i64 t, .int .i64 y] 47 0 (.int .i64 t) rfl
    rw [hs] at this; exact this
  · have := cell_new (w.alloc (.cells cs1 42)) #[.int .i64 t, .int .i64 y] 47 1 (.int .i64 y) rfl
    rw [hs] at this; exact this

set_option maxRecDepth 100000 in
set_option maxHeartbeats 1000000 in
theorem led_empty (F : Interp) (t y : Int) (act : ByteArray) (w : World) (hF : F.answers w.tape) (ha : act.size ≤ 4096) (hm : (msg F t y).size ≤ 4096) (he : act.toList.isEmpty = true) :
    Calls Ybaf.prog 4 #[.int .i64 t, .int .i64 y, .string act] w fun e w' => e = .returned (.bool true) ∧ Below w.heap.size w w' := by
  obtain ⟨cs1, hb1, p16, p19, p14⟩ := build42b t y act
  go_enter Ybaf.func4, Ybaf.ntmps4
  go_wp2_with (first | (with_reducible refine wpList_build3 _ rfl 42 6 9 4 _ _ _ rfl _ _ _ (by with_unfolding_all rfl) (by with_unfolding_all rfl) (by with_unfolding_all rfl) (.agg cs1) (hb1 _) ?_) | (with_reducible refine wpList_box _ rfl 42 _ rfl (.agg cs1) (by with_unfolding_all rfl) _ _ (run_box42 cs1 _) ?_))
  generalize hW1 : (w.alloc (.cells cs1 42)).alloc (.cells #[.int .i64 t, .int .i64 y] 47) = W1
  obtain ⟨⟨c16, c19, c14⟩, ⟨e0, e1⟩, hb, ht, hs⟩ := led_boxes hW1 p16 p19 p14
  clear hW1 p16 p19 p14 hb1
  refine (error_any F _ t y W1 (by rw [ht]; exact hF) e0 e1).mono ?_
  rintro e w2 ⟨rfl, hb2⟩
  have ht2 : w2.tape = w.tape := hb2.tape.trans ht
  have d16 := (hb2.cell (p := ⟨w.heap.size, 6, none⟩) (by show w.heap.size < _; omega)).trans c16
  have d19 := (hb2.cell (p := ⟨w.heap.size, 9, none⟩) (by show w.heap.size < _; omega)).trans c19
  have d14 := (hb2.cell (p := ⟨w.heap.size, 4, none⟩) (by show w.heap.size < _; omega)).trans c14
  have hs2 := hb2.size
  have HB := hide (hb.trans (hb2.mono (by omega)))
  clear hb hb2 e0 e1 c16 c19 c14
  go_wp2_with fail
  refine (sup_empty F _ t y _ w2 (by rw [ht2]; exact hF) d16 d19 d14 ha hm he).mono ?_
  rintro e w3 ⟨rfl, hb3⟩
  have HB3 := hide (HB.out.trans (hb3.mono (by omega)))
  clear hb3 ht2 ht hs
  go_wp2_with fail
  go_ret
  exact ⟨rfl, HB3.out⟩

set_option maxRecDepth 100000 in
set_option maxHeartbeats 1000000 in
theorem led_full (F : Interp) (t y : Int) (act : ByteArray) (w : World) (hF : F.answers w.tape) (ha : act.size ≤ 4096) (hm : (msg F t y).size ≤ 4096) (he : act.toList.isEmpty = false) :
    Calls Ybaf.prog 4 #[.int .i64 t, .int .i64 y, .string act] w fun e w' => e = .returned (.bool true) ∧ Below w.heap.size w w' := by
  obtain ⟨cs1, hb1, p16, p19, p14⟩ := build42b t y act
  go_enter Ybaf.func4, Ybaf.ntmps4
  go_wp2_with (first | (with_reducible refine wpList_build3 _ rfl 42 6 9 4 _ _ _ rfl _ _ _ (by with_unfolding_all rfl) (by with_unfolding_all rfl) (by with_unfolding_all rfl) (.agg cs1) (hb1 _) ?_) | (with_reducible refine wpList_box _ rfl 42 _ rfl (.agg cs1) (by with_unfolding_all rfl) _ _ (run_box42 cs1 _) ?_))
  generalize hW1 : (w.alloc (.cells cs1 42)).alloc (.cells #[.int .i64 t, .int .i64 y] 47) = W1
  obtain ⟨⟨c16, c19, c14⟩, ⟨e0, e1⟩, hb, ht, hs⟩ := led_boxes hW1 p16 p19 p14
  clear hW1 p16 p19 p14 hb1
  refine (error_any F _ t y W1 (by rw [ht]; exact hF) e0 e1).mono ?_
  rintro e w2 ⟨rfl, hb2⟩
  have ht2 : w2.tape = w.tape := hb2.tape.trans ht
  have d16 := (hb2.cell (p := ⟨w.heap.size, 6, none⟩) (by show w.heap.size < _; omega)).trans c16
  have d19 := (hb2.cell (p := ⟨w.heap.size, 9, none⟩) (by show w.heap.size < _; omega)).trans c19
  have d14 := (hb2.cell (p := ⟨w.heap.size, 4, none⟩) (by show w.heap.size < _; omega)).trans c14
  have hs2 := hb2.size
  have HB := hide (hb.trans (hb2.mono (by omega)))
  clear hb hb2 e0 e1 c16 c19 c14
  have hs5 : sufB.size = 53 := by decide
  have hms : (msg F t y ++ sufB).size ≤ 5000 := by rw [ByteArray.size_append]; omega
  have hassoc : ((msg F t y ++ (sufB ++ act)).toList == (msg F t y ++ sufB ++ act).toList) = true := by rw [ByteArray.append_assoc]; simp
  go_wp2_with (go_at_call 6; refine (suffix_any _).mono ?_; rintro e w' ⟨rfl, rfl⟩)
  refine (sup_full F _ t y _ _ (by rw [ht2]; exact hF) d16 d19 d14 ha hm he).mono ?_
  rintro e w3 ⟨rfl, hb3⟩
  have HB3 := hide (HB.out.trans (hb3.mono (by omega)))
  clear hb3 ht2 ht hs
  go_wp2_with fail
  go_ret
  exact ⟨rfl, HB3.out⟩

end Go.Proofs.YbulkasxiFmt

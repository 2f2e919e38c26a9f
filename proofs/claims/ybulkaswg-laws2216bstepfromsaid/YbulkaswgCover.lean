/-
  The contracts of zzs2216bname (9), newTally (15), (*tally).cover (8).
-/
import Derived.Test.YbulkaswgTab
import Derived.WalkSpells
import Derived.WalkLawsBesides
import Derived.BigQuiet
import Derived.Deep.Cut
namespace Go.Proofs.Ybulkaswg
open Go.RowKit Go.Maps

def nameOf (k : Int) : ByteArray := if k = 0 then ⟨#[97]⟩ else if k = 1 then ⟨#[98]⟩ else if k = 2 then ⟨#[122, 122]⟩ else ⟨#[]⟩

set_option maxHeartbeats 400000 in
theorem name_any (k : Int) (w : World) : Calls Yba.prog 9 #[.int .i64 k] w fun e w' => e = .returned (.string (nameOf k)) ∧ w' = w := by
  by_cases h0 : k = 0
  · go_enter Yba.func9, Yba.ntmps9
    go_wp2
    go_ret
    exact ⟨by simp [nameOf, h0], rfl⟩
  by_cases h1 : k = 1
  · go_enter Yba.func9, Yba.ntmps9
    go_wp2
    go_ret
    exact ⟨by simp [nameOf, h1], rfl⟩
  by_cases h2 : k = 2
  · go_enter Yba.func9, Yba.ntmps9
    go_wp2
    go_ret
    exact ⟨by simp [nameOf, h2], rfl⟩
  · go_enter Yba.func9, Yba.ntmps9
    go_wp2
    go_ret
    exact ⟨by simp [nameOf, h0, h1, h2], rfl⟩

set_option maxHeartbeats 400000 in
theorem newTally_any (w : World) : Calls Yba.prog 15 #[] w fun e w' => e = .returned (.agg #[.int .u64 0, .int .u64 0, .int .u64 0, .map (some (w.heap.size + 1))]) ∧
    w' = (w.alloc (.cells #[.int .u64 0, .int .u64 0, .int .u64 0, .map (some (w.heap.size + 1))] 38)).alloc (.map #[] 0) := by
  have hmm := @run_makeMap Yba.prog
  go_enter Yba.func15, Yba.ntmps15
  go_wp2
  exact bodyPost_ret (v := .agg #[.int .u64 0, .int .u64 0, .int .u64 0, .map (some (w.heap.size + 1))]) (by simp [results, Yba.results15, go_sem]) rfl ⟨rfl, rfl⟩

/-- The block of a tally. -/
def tallyO (c i p : Int) (m : Option Nat) : Obj := .cells #[.int .u64 c, .int .u64 i, .int .u64 p, .map m] 38 (0, 0)

theorem tally_cells {w : World} {B : Nat} {c i p : Int} {m : Option Nat} (h : w.heap[B]? = some (tallyO c i p m)) :
    w.cell? ⟨B, 0, none⟩ = some (.int .u64 c) ∧ w.cell? ⟨B, 1, none⟩ = some (.int .u64 i) ∧ w.cell? ⟨B, 2, none⟩ = some (.int .u64 p) ∧ w.cell? ⟨B, 3, none⟩ = some (.map m) ∧
    w.frozen? ⟨B, 0, none⟩ = false ∧ w.frozen? ⟨B, 1, none⟩ = false ∧ w.frozen? ⟨B, 2, none⟩ = false ∧ w.frozen? ⟨B, 3, none⟩ = false := by
  simp [World.cell?, World.frozen?, h, tallyO]

theorem fld1 (a b : Int) (w : World) : (Instr.field 40 (.agg #[.int .u64 a, .int .u64 b]) 1).run Yba.prog w = .ok (.int .u64 b) w := by kernel_rfl

theorem setBlock_other {w : World} {b : Nat} {es es' : Array MapEntry} {c c' : Nat} (hb : w.heap[b]? = some (.map es c)) (k : Nat) (hk : k ≠ b) : (ChangeMaps.setBlock w b (.map es' c')).heap[k]? = w.heap[k]? :=
  ChangeMaps.heap_setBlock_other hb _ hk

theorem heap_alloc_new' (w : World) (o : Obj) : (w.alloc o).heap[w.heap.size]? = some o := (MapKept.heap_alloc w o).1

theorem setCell_block {w : World} {B : Nat} {cs : Array Value} {t : TypeId} (h : w.heap[B]? = some (.cells cs t (0, 0))) (o : Nat) (v : Value) : (w.setCell ⟨B, o, none⟩ v).heap[B]? = some (.cells (cs.setIfInBounds o v) t (0, 0)) := by
  have hlt := lt_of_block h
  have h' : w.heap[B] = .cells cs t (0, 0) := by simpa [Array.getElem?_eq_getElem hlt] using h
  show (w.heap.modify B _)[B]? = _
  rw [Array.getElem?_eq_getElem (by simpa using hlt), Array.getElem_modify_self, h']
  rfl

/-- What a change leaves: w' is w but for the blocks of S, and new ones. -/
structure Fr (S : Nat → Prop) (w w' : World) : Prop where
  os : w'.os = w.os
  tape : w'.tape = w.tape
  output : w'.output = w.output
  size : w.heap.size ≤ w'.heap.size
  block : ∀ k, k < w.heap.size → ¬ S k → w'.heap[k]? = w.heap[k]?

theorem Fr.below {S : Nat → Prop} {w w' : World} (h : Fr S w w') {N : Nat} (hN : N ≤ w.heap.size) (hS : ∀ k, k < N → ¬ S k) : Below N w w' :=
  ⟨h.os, h.tape, h.output, h.size, fun k hk => h.block k (by omega) (hS k hk)⟩

/-- The world behind the store into the map: its blocks. -/
theorem cover_world {B M : Nat} {c i p l d X : Int} {w W2 : World} {es0 es : Array MapEntry} {clock0 clock : Nat} (hB : w.heap[B]? = some (tallyO c i p (some M))) (hM0 : w.heap[M]? = some (.map es0 clock0)) (hne : M ≠ B)
    (hW2 : W2 = ChangeMaps.setBlock ((w.setCell ⟨B, 1, none⟩ (.int .u64 X)).alloc (.cells #[.int .u64 l, .int .u64 d] 40)).drew.drew M (.map es clock)) :
    W2.heap[B]? = some (tallyO c X p (some M)) ∧ W2.heap[w.heap.size]? = some (.cells #[.int .u64 l, .int .u64 d] 40 (0, 0)) ∧ W2.heap[M]? = some (.map es clock) ∧ Fr (fun k => k = B ∨ k = M) w W2 := by
  have hBlt := lt_of_block hB
  have hMlt : M < w.heap.size := (Array.getElem?_eq_some_iff.1 hM0).1
  have hsz : (w.setCell ⟨B, 1, none⟩ (.int .u64 X)).heap.size = w.heap.size := by simp [World.setCell]
  have hb1 : ((w.setCell ⟨B, 1, none⟩ (.int .u64 X)).alloc (.cells #[.int .u64 l, .int .u64 d] 40)).drew.drew.heap[M]? = some (.map es0 clock0) :=
    (Below.heap_alloc _ _ _ (by rw [hsz]; exact hMlt)).trans ((Below.heap_setCell _ _ _ _ hne).trans hM0)
  subst hW2
  refine ⟨?_, ?_, ?_, ?_⟩
  · rw [setBlock_other hb1 B (Ne.symm hne)]
    exact (Below.heap_alloc _ _ _ (by rw [hsz]; exact hBlt)).trans (setCell_block hB 1 _)
  · rw [setBlock_other hb1 _ (by omega)]
    have := heap_alloc_new' (w.setCell ⟨B, 1, none⟩ (.int .u64 X)) (.cells #[.int .u64 l, .int .u64 d] 40)
    rw [hsz] at this
    exact this
  · exact ChangeMaps.heap_setBlock_same hb1 _
  · refine ⟨rfl, rfl, rfl, ?_, fun k hk hS => ?_⟩
    · simp [ChangeMaps.setBlock, World.setCell, World.drew]
    · rw [setBlock_other hb1 k (fun e => hS (Or.inr e))]
      exact (Below.heap_alloc _ _ _ (by rw [hsz]; exact hk)).trans (Below.heap_setCell _ _ _ _ (fun e => hS (Or.inl e)))

theorem box_cells {w : World} {b : Nat} {l d : Int} (h : w.heap[b]? = some (.cells #[.int .u64 l, .int .u64 d] 40 (0, 0))) :
    w.cell? ⟨b, 0, none⟩ = some (.int .u64 l) ∧ w.cell? ⟨b, 1, none⟩ = some (.int .u64 d) := by
  simp [World.cell?, h]

/-- The world behind the last store: its blocks. -/
theorem cover_last {B M sz : Nat} {c c' i p : Int} {f : List UInt8 → Option (Int × Int)} {S : Nat → Prop} {w W2 : World} (hS : S B) (hne : M ≠ B) (hB : W2.heap[B]? = some (tallyO c i p (some M))) (hT : Tab W2 M f sz) (hF : Fr S w W2) :
    (W2.setCell ⟨B, 0, none⟩ (.int .u64 c')).drew.heap[B]? = some (tallyO c' i p (some M)) ∧ Tab (W2.setCell ⟨B, 0, none⟩ (.int .u64 c')).drew M f sz ∧ Fr S w (W2.setCell ⟨B, 0, none⟩ (.int .u64 c')).drew := by
  refine ⟨setCell_block hB 0 _, hT.of_block (Below.heap_setCell _ _ _ _ hne), ⟨hF.os, hF.tape, hF.output, ?_, fun k hk hk' => ?_⟩⟩
  · simpa [World.setCell, World.drew] using hF.size
  · exact (Below.heap_setCell _ _ _ _ (fun e => hk' (by rw [e]; exact hS))).trans (hF.block k hk hk')

/-- ids behind a cover. -/
def idsBy (i d o : Int) : Int := IntKind.u64.wrap (i + IntKind.u64.wrap (d - o))
/-- clock behind a cover. -/
def clockBy (c l : Int) : Int := if c < l then l else c

set_option maxHeartbeats 400000 in
theorem cover_some (B M : Nat) (c i p l d : Int) (s : ByteArray) (f : List UInt8 → Option (Int × Int)) (sz : Nat) (w : World)
    (hB : w.heap[B]? = some (tallyO c i p (some M))) (hT : Tab w M f sz) (hs : s.size ≤ maxLen) (hn : sz < maxLen) :
    Calls Yba.prog 8 #[.pointer (some ⟨B, 0, none⟩), .string s, .agg #[.int .u64 l, .int .u64 d]] w fun e w' => e = .returned (.tuple #[]) ∧
      w'.heap[B]? = some (tallyO (clockBy c l) (idsBy i d ((f s.data.toList).getD (0, 0)).2) p (some M)) ∧ Tab w' M (put f s.data.toList (l, d)) (if (f s.data.toList).isSome then sz else sz + 1) ∧ Fr (fun k => k = B ∨ k = M) w w' := by
  obtain ⟨c0, c1, c2, c3, f0, f1, f2, f3⟩ := tally_cells hB
  have hlt : B < w.heap.size := (Array.getElem?_eq_some_iff.1 hB).1
  obtain ⟨es0, clock0, hM0⟩ := hT.isMapBlock
  have hMlt : M < w.heap.size := (Array.getElem?_eq_some_iff.1 hM0).1
  have hne : M ≠ B := by intro e; rw [e, hB] at hM0; cases hM0
  have heq := fun W => run_eql_map_nil (P := Yba.prog) W 36 9 40 (some M) Yba.underlying36
  have T1 : Tab (w.alloc (.cells #[.int .u64 l, .int .u64 d] 40)).drew M f sz := hT.of_block (Below.heap_alloc _ _ _ hMlt)
  have hlook := T1.look s hs
  have hf := fld1
  have T2 : Tab ((w.setCell ⟨B, 1, none⟩ (.int .u64 (IntKind.u64.wrap (i + IntKind.u64.wrap (d - ((f s.data.toList).getD (0, 0)).snd))))).alloc (.cells #[.int .u64 l, .int .u64 d] 40)).drew.drew M f sz :=
    hT.of_block ((Below.heap_alloc _ _ _ (by simpa [World.setCell] using hMlt)).trans (Below.heap_setCell _ _ _ _ hne))
  obtain ⟨es, clock, hupd, hTab⟩ := T2.store hn s hs (l, d)
  unfold extV at hlook hupd
  obtain ⟨W2, hW2⟩ : ∃ W2, W2 = ChangeMaps.setBlock ((w.setCell ⟨B, 1, none⟩ (.int .u64 (IntKind.u64.wrap (i + IntKind.u64.wrap (d - ((f s.data.toList).getD (0, 0)).snd))))).alloc (.cells #[.int .u64 l, .int .u64 d] 40)).drew.drew M (.map es clock) := ⟨_, rfl⟩
  rw [← hW2] at hupd
  obtain ⟨g1, g2, g3, g4⟩ := cover_world hB hM0 hne hW2
  obtain ⟨e0, e1, e2, e3, k0, k1, k2, k3⟩ := tally_cells g1
  obtain ⟨b0, b1⟩ := box_cells g2
  have G := hide (cover_last (c' := clockBy c l) (S := fun k => k = B ∨ k = M) (Or.inl rfl) hne g1 (hTab W2 g3) g4)
  clear hM0 hW2 g1 g2 g3 g4 T1 T2 hT hB hTab
  go_enter Yba.func8, Yba.ntmps8
  go_wp2
  go_region
  go_wp2
  go_region
  go_wp2
  go_region
  go_end0
  exact ⟨rfl, G.out⟩

theorem newTally_fresh (w : World) : Calls Yba.prog 15 #[] w fun e w' => e = .returned (.agg #[.int .u64 0, .int .u64 0, .int .u64 0, .map (some (w.heap.size + 1))]) ∧
    Below w.heap.size w w' ∧ w'.heap.size = w.heap.size + 2 ∧ Tab w' (w.heap.size + 1) (fun _ => none) 0 := by
  refine (newTally_any w).mono ?_
  rintro e w' ⟨rfl, rfl⟩
  refine ⟨rfl, ((Below.refl _ _).alloc (Nat.le_refl _) _).alloc (by simp) _, by simp, ?_⟩
  have := Tab.made (w.alloc (.cells #[.int .u64 0, .int .u64 0, .int .u64 0, .map (some (w.heap.size + 1))] 38))
  simpa using this

/-- The world behind '*t = newTally()'. -/
theorem fresh_world {B N : Nat} {c i p l d : Int} {w w1 : World} (hB : w.heap[B]? = some (tallyO c i p none)) (hw1 : Below (w.heap.size + 1) (w.alloc (.cells #[.int .u64 l, .int .u64 d] 40)) w1) (hT : Tab w1 N (fun _ => none) 0) (hN : w.heap.size < N) :
    ∀ W, (((w1.setCell ⟨B, 0, none⟩ (.int .u64 0)).setCell ⟨B, 1, none⟩ (.int .u64 0)).setCell ⟨B, 2, none⟩ (.int .u64 0)).setCell ⟨B, 3, none⟩ (.map (some N)) = W →
    W.heap[B]? = some (tallyO 0 0 0 (some N)) ∧ W.heap[w.heap.size]? = some (.cells #[.int .u64 l, .int .u64 d] 40 (0, 0)) ∧ Tab W N (fun _ => none) 0 ∧ Fr (fun k => k = B) w W := by
  intro W hW
  have hlt := lt_of_block hB
  have h1 : w1.heap[B]? = some (tallyO c i p none) := (hw1.block B (by omega)).trans ((Below.heap_alloc _ _ _ hlt).trans hB)
  have h2 := setCell_block h1 0 (.int .u64 0)
  have h3 := setCell_block h2 1 (.int .u64 0)
  have h4 := setCell_block h3 2 (.int .u64 0)
  have h5 := setCell_block h4 3 (.map (some N))
  subst hW
  have ho : ∀ k, k ≠ B → ((((w1.setCell ⟨B, 0, none⟩ (.int .u64 0)).setCell ⟨B, 1, none⟩ (.int .u64 0)).setCell ⟨B, 2, none⟩ (.int .u64 0)).setCell ⟨B, 3, none⟩ (.map (some N))).heap[k]? = w1.heap[k]? := fun k hk =>
    (Below.heap_setCell _ _ _ _ hk).trans ((Below.heap_setCell _ _ _ _ hk).trans ((Below.heap_setCell _ _ _ _ hk).trans (Below.heap_setCell _ _ _ _ hk)))
  refine ⟨h5, ?_, hT.of_block (ho N (by omega)), ⟨hw1.os, hw1.tape, hw1.output, ?_, fun k hk hk' => ?_⟩⟩
  · rw [ho _ (by omega), hw1.block _ (by omega)]
    exact heap_alloc_new' _ _
  · have := hw1.size
    simp at this
    simp [World.setCell]
    omega
  · rw [ho k hk', hw1.block k (by omega)]
    exact Below.heap_alloc _ _ _ hk

/-- The world behind the store into the map, its box below. -/
theorem cover_world2 {B M b : Nat} {c i p l d X : Int} {w W2 : World} {es0 es : Array MapEntry} {clock0 clock : Nat} (hB : w.heap[B]? = some (tallyO c i p (some M))) (hb : w.heap[b]? = some (.cells #[.int .u64 l, .int .u64 d] 40 (0, 0))) (hM0 : w.heap[M]? = some (.map es0 clock0)) (hne : M ≠ B) (hbB : b ≠ B) (hbM : b ≠ M)
    (hW2 : W2 = ChangeMaps.setBlock (w.setCell ⟨B, 1, none⟩ (.int .u64 X)).drew.drew M (.map es clock)) :
    W2.heap[B]? = some (tallyO c X p (some M)) ∧ W2.heap[b]? = some (.cells #[.int .u64 l, .int .u64 d] 40 (0, 0)) ∧ W2.heap[M]? = some (.map es clock) ∧ Fr (fun k => k = B ∨ k = M) w W2 := by
  have hb1 : (w.setCell ⟨B, 1, none⟩ (.int .u64 X)).drew.drew.heap[M]? = some (.map es0 clock0) := (Below.heap_setCell _ _ _ _ hne).trans hM0
  subst hW2
  refine ⟨?_, ?_, ?_, ?_⟩
  · rw [setBlock_other hb1 B (Ne.symm hne)]
    exact setCell_block hB 1 _
  · rw [setBlock_other hb1 _ hbM]
    exact (Below.heap_setCell _ _ _ _ hbB).trans hb
  · exact ChangeMaps.heap_setBlock_same hb1 _
  · refine ⟨rfl, rfl, rfl, ?_, fun k hk hS => ?_⟩
    · simp [ChangeMaps.setBlock, World.setCell, World.drew]
    · rw [setBlock_other hb1 k (fun e => hS (Or.inr e))]
      exact Below.heap_setCell _ _ _ _ (fun e => hS (Or.inl e))

set_option maxHeartbeats 400000 in
theorem cover_none (B : Nat) (c i p l d : Int) (s : ByteArray) (w : World)
    (hB : w.heap[B]? = some (tallyO c i p none)) (hs : s.size ≤ maxLen) :
    Calls Yba.prog 8 #[.pointer (some ⟨B, 0, none⟩), .string s, .agg #[.int .u64 l, .int .u64 d]] w fun e w' => e = .returned (.tuple #[]) ∧
      ∃ M, w.heap.size ≤ M ∧ w'.heap[B]? = some (tallyO (clockBy 0 l) (idsBy 0 d 0) 0 (some M)) ∧ Tab w' M (put (fun _ => none) s.data.toList (l, d)) 1 ∧ Fr (fun k => k = B) w w' := by
  obtain ⟨c0, c1, c2, c3, f0, f1, f2, f3⟩ := tally_cells hB
  have HB := hide hB
  have hlt : B < w.heap.size := (Array.getElem?_eq_some_iff.1 hB).1
  have heq := fun W => run_eql_map_nil (P := Yba.prog) W 36 9 40 none Yba.underlying36
  have hf := fld1
  clear hB
  go_enter Yba.func8, Yba.ntmps8
  go_wp2_with fail
  refine (newTally_fresh _).mono ?_
  rintro e w1 ⟨rfl, hb1, hs1, hT1⟩
  simp only [World.size_alloc] at hb1 hs1 hT1 ⊢
  have q0 : w1.cell? ⟨B, 0, none⟩ = some (.int .u64 c) := (hb1.cell (p := ⟨B, 0, none⟩) (by show B < _; omega)).trans (by simpa [World.cell?, Below.heap_alloc _ _ _ hlt] using c0)
  have q1 : w1.cell? ⟨B, 1, none⟩ = some (.int .u64 i) := (hb1.cell (p := ⟨B, 1, none⟩) (by show B < _; omega)).trans (by simpa [World.cell?, Below.heap_alloc _ _ _ hlt] using c1)
  have q2 : w1.cell? ⟨B, 2, none⟩ = some (.int .u64 p) := (hb1.cell (p := ⟨B, 2, none⟩) (by show B < _; omega)).trans (by simpa [World.cell?, Below.heap_alloc _ _ _ hlt] using c2)
  have q3 : w1.cell? ⟨B, 3, none⟩ = some (.map none) := (hb1.cell (p := ⟨B, 3, none⟩) (by show B < _; omega)).trans (by simpa [World.cell?, Below.heap_alloc _ _ _ hlt] using c3)
  have r0 : w1.frozen? ⟨B, 0, none⟩ = false := (hb1.frozen (p := ⟨B, 0, none⟩) (by show B < _; omega)).trans (by simpa [World.frozen?, Below.heap_alloc _ _ _ hlt] using f0)
  have r1 : w1.frozen? ⟨B, 1, none⟩ = false := (hb1.frozen (p := ⟨B, 1, none⟩) (by show B < _; omega)).trans (by simpa [World.frozen?, Below.heap_alloc _ _ _ hlt] using f1)
  have r2 : w1.frozen? ⟨B, 2, none⟩ = false := (hb1.frozen (p := ⟨B, 2, none⟩) (by show B < _; omega)).trans (by simpa [World.frozen?, Below.heap_alloc _ _ _ hlt] using f2)
  have r3 : w1.frozen? ⟨B, 3, none⟩ = false := (hb1.frozen (p := ⟨B, 3, none⟩) (by show B < _; omega)).trans (by simpa [World.frozen?, Below.heap_alloc _ _ _ hlt] using f3)
  go_wp2
  generalize hW1 : (((w1.setCell ⟨B, 0, none⟩ (.int .u64 0)).setCell ⟨B, 1, none⟩ (.int .u64 0)).setCell ⟨B, 2, none⟩ (.int .u64 0)).setCell ⟨B, 3, none⟩ (.map (some (w.heap.size + 1 + 1))) = W1
  obtain ⟨z1, z2, z3, z4⟩ := fresh_world HB.out hb1 hT1 (by omega) W1 hW1
  obtain ⟨es0, clock0, hM0⟩ := z3.isMapBlock
  have hne : w.heap.size + 1 + 1 ≠ B := by omega
  have T1 : Tab W1.drew (w.heap.size + 1 + 1) (fun _ => none) 0 := z3
  have hlook := T1.look s hs
  have T2 : Tab (W1.setCell ⟨B, 1, none⟩ (.int .u64 (IntKind.u64.wrap (IntKind.u64.wrap d)))).drew.drew (w.heap.size + 1 + 1) (fun _ => none) 0 := z3.of_block (Below.heap_setCell _ _ _ _ hne)
  obtain ⟨es, clock, hupd, hTab⟩ := T2.store (by unfold maxLen; omega) s hs (l, d)
  unfold extV at hlook hupd
  obtain ⟨W2, hW2⟩ : ∃ W2, W2 = ChangeMaps.setBlock (W1.setCell ⟨B, 1, none⟩ (.int .u64 (IntKind.u64.wrap (IntKind.u64.wrap d)))).drew.drew (w.heap.size + 1 + 1) (.map es clock) := ⟨_, rfl⟩
  rw [← hW2] at hupd
  obtain ⟨g1, g2, g3, g4⟩ := cover_world2 z1 z2 hM0 hne (by omega) (by omega) hW2
  obtain ⟨e0, e1, e2, e3, k0, k1, k2, k3⟩ := tally_cells g1
  obtain ⟨b0, b1⟩ := box_cells g2
  obtain ⟨a0, a1, a2, a3, m0, m1, m2, m3⟩ := tally_cells z1
  obtain ⟨n0, n1⟩ := box_cells z2
  have G := hide (cover_last (c' := clockBy 0 l) (S := fun k => k = B ∨ k = w.heap.size + 1 + 1) (Or.inl rfl) hne g1 (hTab W2 g3) g4)
  have Z4 := hide z4
  clear hM0 hW2 g1 g2 g3 g4 T1 T2 hTab z1 z2 z3 z4 hW1 hb1 hs1 hT1 q0 q1 q2 q3 r0 r1 r2 r3 c0 c1 c2 c3 f0 f1 f2 f3
  simp only [Option.getD_none] at hlook
  go_region
  go_wp2
  go_region
  go_wp2
  go_region
  go_end0
  obtain ⟨x1, x2, x3⟩ := G.out
  have hi : idsBy 0 d 0 = IntKind.u64.wrap (IntKind.u64.wrap d) := by simp [idsBy]
  refine ⟨rfl, w.heap.size + 1 + 1, by omega, ?_, x2, ?_⟩
  · rw [hi]; exact x1
  · have y := Z4.out
    exact ⟨x3.os.trans y.os, x3.tape.trans y.tape, x3.output.trans y.output, Nat.le_trans y.size x3.size, fun k hk hk' => (x3.block k (Nat.lt_of_lt_of_le hk y.size) (by intro h; rcases h with h | h <;> omega)).trans (y.block k hk hk')⟩

end Go.Proofs.Ybulkaswg

/-
  LawS2218BDistinct (4): the parts outside the walk.
-/
import Derived.Test.YbulkasxiAns
import Derived.Deep.Light
import Derived.WalkLawsBesides
namespace Go.Proofs.Ybulkasxi
open Go.RowKit

/-- Which lives have been counted after k picks. -/
def seen (was : Nat → Bool) (R : Nat → Int) : Nat → Nat → Bool
  | 0, _ => false
  | k + 1, j => if R k % 4 = (j : Int) ∧ was j = false then true else seen was R k j
/-- How many. -/
def cnt (was : Nat → Bool) (R : Nat → Int) : Nat → Nat
  | 0 => 0
  | k + 1 => if was (R k % 4).toNat = false ∧ seen was R k (R k % 4).toNat = false then cnt was R k + 1 else cnt was R k
theorem seen_succ (was : Nat → Bool) (R : Nat → Int) (k j : Nat) : seen was R (k + 1) j = if R k % 4 = (j : Int) ∧ was j = false then true else seen was R k j := rfl
theorem cnt_succ (was : Nat → Bool) (R : Nat → Int) (k : Nat) : cnt was R (k + 1) = if was (R k % 4).toNat = false ∧ seen was R k (R k % 4).toNat = false then cnt was R k + 1 else cnt was R k := rfl
theorem cnt_le (was : Nat → Bool) (R : Nat → Int) : ∀ k, cnt was R k ≤ k
  | 0 => Nat.le_refl _
  | k + 1 => by
    have := cnt_le was R k
    unfold cnt
    split <;> omega

structure Made (w : World) (was : Nat → Bool) (q : Nat) (wr : World) : Prop where
  siz : wr.heap.size = w.heap.size + 3 + q
  bel : Below w.heap.size w wr
  wst : ∀ j, j < 4 → wr.cell? ⟨w.heap.size, j, none⟩ = some (.bool (was j))
  ply : wr.cell? ⟨w.heap.size + 1, 33, none⟩ = some (.int .i64 0) ∧ wr.frozen? ⟨w.heap.size + 1, 33, none⟩ = false
  liv : ∀ j, j < 4 → (∃ v, wr.cell? ⟨w.heap.size + 2, j, none⟩ = some v) ∧ wr.frozen? ⟨w.heap.size + 2, j, none⟩ = false
  ptr : ∀ j, j < q → wr.cell? ⟨w.heap.size + 2, j, none⟩ = some (.pointer (some ⟨w.heap.size + 3 + j, 0, none⟩))
  mrk : ∀ j, j < q → wr.cell? ⟨w.heap.size + 3 + j, 3, none⟩ = some (.bool (was j)) ∧ wr.frozen? ⟨w.heap.size + 3 + j, 3, none⟩ = false

theorem heap_new (w : World) (o : Obj) : (w.alloc o).heap[w.heap.size]? = some o := (MapKept.heap_alloc w o).1
theorem cell_alloc {w : World} {a : Addr} {v : Value} (h : w.cell? a = some v) (o : Obj) : (w.alloc o).cell? a = some v :=
  (World.cell?_of_block (w := w) (Below.heap_alloc _ _ _ (World.block_lt_of_cell? w a h))).trans h
theorem frozen_alloc {w : World} {a : Addr} {f : Bool} (hlt : a.block < w.heap.size) (h : w.frozen? a = f) (o : Obj) : (w.alloc o).frozen? a = f :=
  (World.frozen?_of_block (w := w) (Below.heap_alloc _ _ _ hlt)).trans h
theorem cell_set_other {w : World} {a b : Addr} {v u : Value} (hne : b ≠ a) (h : w.cell? a = some v) : (w.setCell b u).cell? a = some v :=
  (World.cell?_setCell_other _ _ _ _ hne).trans h
theorem frozen_set {w : World} {a b : Addr} {u : Value} {f : Bool} (h : w.frozen? a = f) : (w.setCell b u).frozen? a = f :=
  (World.frozen?_setCell _ _ _ _).trans h

theorem Made.start (was : Nat → Bool) {cs : Array Value} (h33 : cs[33]? = some (.int .i64 0)) (w : World) :
    Made w was 0 (((w.alloc (.cells #[.bool (was 0), .bool (was 1), .bool (was 2), .bool (was 3)] 55)).alloc (.cells cs 48)).alloc (.cells #[.pointer none, .pointer none, .pointer none, .pointer none] 56)) := by
  have s1 : (w.alloc (.cells #[.bool (was 0), .bool (was 1), .bool (was 2), .bool (was 3)] 55)).heap.size = w.heap.size + 1 := World.size_alloc _ _
  have s2 : ((w.alloc (.cells #[.bool (was 0), .bool (was 1), .bool (was 2), .bool (was 3)] 55)).alloc (.cells cs 48)).heap.size = w.heap.size + 2 := by rw [World.size_alloc, s1]
  have e0 : (((w.alloc (.cells #[.bool (was 0), .bool (was 1), .bool (was 2), .bool (was 3)] 55)).alloc (.cells cs 48)).alloc (.cells #[.pointer none, .pointer none, .pointer none, .pointer none] 56)).heap[w.heap.size]? = some (.cells #[.bool (was 0), .bool (was 1), .bool (was 2), .bool (was 3)] 55 (0, 0)) :=
    (Below.heap_alloc _ _ _ (by omega)).trans ((Below.heap_alloc _ _ _ (by omega)).trans (heap_new _ _))
  have e1 : (((w.alloc (.cells #[.bool (was 0), .bool (was 1), .bool (was 2), .bool (was 3)] 55)).alloc (.cells cs 48)).alloc (.cells #[.pointer none, .pointer none, .pointer none, .pointer none] 56)).heap[w.heap.size + 1]? = some (.cells cs 48 (0, 0)) := by
    refine (Below.heap_alloc _ _ _ (by omega)).trans ?_
    rw [← s1]; exact heap_new _ _
  have e2 : (((w.alloc (.cells #[.bool (was 0), .bool (was 1), .bool (was 2), .bool (was 3)] 55)).alloc (.cells cs 48)).alloc (.cells #[.pointer none, .pointer none, .pointer none, .pointer none] 56)).heap[w.heap.size + 2]? = some (.cells #[.pointer none, .pointer none, .pointer none, .pointer none] 56 (0, 0)) := by
    rw [← s2]; exact heap_new _ _
  refine ⟨by rw [World.size_alloc, s2], (((Below.refl _ _).alloc (Nat.le_refl _) _).alloc (by omega) _).alloc (by omega) _, fun j hj => ?_, ⟨?_, ?_⟩, fun j hj => ⟨⟨.pointer none, ?_⟩, ?_⟩, fun j hj => by omega, fun j hj => by omega⟩
  · simp only [World.cell?, e0]
    match j, hj with
    | 0, _ | 1, _ | 2, _ | 3, _ => rfl
  · simp only [World.cell?, e1]; simpa using h33
  · simp only [World.frozen?, e1]; rfl
  · simp only [World.cell?, e2]
    match j, hj with
    | 0, _ | 1, _ | 2, _ | 3, _ => rfl
  · simp only [World.frozen?, e2]; simp

/-- One life is made. -/
theorem Made.step {w wr : World} {was : Nat → Bool} {q : Nat} (h : Made w was q wr) (hq : q < 4) :
    Made w was (q + 1) ((wr.alloc (.cells #[.string ⟨#[]⟩, .int .i64 0, .int .i64 0, .bool (was q)] 51)).setCell ⟨w.heap.size + 2, q, none⟩ (.pointer (some ⟨wr.heap.size, 0, none⟩))) := by
  have hz := h.siz
  refine ⟨?_, ?_, fun j hj => ?_, ⟨?_, ?_⟩, fun j hj => ⟨?_, ?_⟩, fun j hj => ?_, fun j hj => ⟨?_, ?_⟩⟩
  · simp [World.setCell, hz]; omega
  · exact (h.bel.alloc (by omega) _).setCell (by show w.heap.size ≤ w.heap.size + 2; omega) _
  · exact cell_set_other (by intro e; injection e with e1; omega) (cell_alloc (h.wst j hj) _)
  · exact cell_set_other (by intro e; injection e with e1; omega) (cell_alloc h.ply.1 _)
  · exact frozen_set (frozen_alloc (by show w.heap.size + 1 < _; omega) h.ply.2 _)
  · obtain ⟨⟨v, hv⟩, _⟩ := h.liv j hj
    by_cases e : j = q
    · subst e
      exact ⟨_, World.cell?_setCell_same _ _ _ (cell_alloc hv _)⟩
    · exact ⟨v, cell_set_other (by intro e'; injection e' with e1 e2; omega) (cell_alloc hv _)⟩
  · exact frozen_set (frozen_alloc (by show w.heap.size + 2 < _; omega) (h.liv j hj).2 _)
  · by_cases e : j = q
    · subst e
      obtain ⟨⟨v, hv⟩, _⟩ := h.liv j hq
      rw [World.cell?_setCell_same _ _ _ (cell_alloc hv _), hz]
    · exact cell_set_other (by intro e'; injection e' with e1 e2; omega) (cell_alloc (h.ptr j (by omega)) _)
  · refine cell_set_other (by intro e; injection e with e1; omega) ?_
    by_cases e : j = q
    · subst e
      rw [show w.heap.size + 3 + j = wr.heap.size from hz.symm]
      simp only [World.cell?, heap_new]; rfl
    · exact cell_alloc (h.mrk j (by omega)).1 _
  · refine frozen_set ?_
    by_cases e : j = q
    · subst e
      rw [show w.heap.size + 3 + j = wr.heap.size from hz.symm]
      simp only [World.frozen?, heap_new]; rfl
    · exact frozen_alloc (by show w.heap.size + 3 + j < _; omega) (h.mrk j (by omega)).2 _

structure Inv (w : World) (was : Nat → Bool) (R : Nat → Int) (k : Nat) (wr : World) : Prop where
  bel : Below w.heap.size w wr
  wst : ∀ j, j < 4 → wr.cell? ⟨w.heap.size, j, none⟩ = some (.bool (was j))
  ply : wr.cell? ⟨w.heap.size + 1, 33, none⟩ = some (.int .i64 (cnt was R k)) ∧ wr.frozen? ⟨w.heap.size + 1, 33, none⟩ = false
  ptr : ∀ j, j < 4 → wr.cell? ⟨w.heap.size + 2, j, none⟩ = some (.pointer (some ⟨w.heap.size + 3 + j, 0, none⟩))
  mrk : ∀ j, j < 4 → wr.cell? ⟨w.heap.size + 3 + j, 3, none⟩ = some (.bool (was j || seen was R k j)) ∧ wr.frozen? ⟨w.heap.size + 3 + j, 3, none⟩ = false
  sen : ∀ j, j < 4 → wr.cell? ⟨w.heap.size + 7, j, none⟩ = some (.bool (seen was R k j)) ∧ wr.frozen? ⟨w.heap.size + 7, j, none⟩ = false

theorem Inv.start {w wr : World} {was : Nat → Bool} (R : Nat → Int) (h : Made w was 4 wr) : Inv w was R 0 (wr.alloc (.cells #[.bool false, .bool false, .bool false, .bool false] 55)) := by
  have hz := h.siz
  refine ⟨h.bel.alloc (by omega) _, fun j hj => cell_alloc (h.wst j hj) _, ⟨cell_alloc h.ply.1 _, frozen_alloc (by show w.heap.size + 1 < _; omega) h.ply.2 _⟩, fun j hj => cell_alloc (h.ptr j hj) _, fun j hj => ⟨?_, frozen_alloc (by show w.heap.size + 3 + j < _; omega) (h.mrk j hj).2 _⟩, fun j hj => ⟨?_, ?_⟩⟩
  · have := cell_alloc (h.mrk j hj).1 (.cells #[.bool false, .bool false, .bool false, .bool false] 55)
    simpa [seen] using this
  · rw [show w.heap.size + 7 = wr.heap.size from by omega]
    simp only [World.cell?, heap_new]
    match j, hj with
    | 0, _ | 1, _ | 2, _ | 3, _ => rfl
  · rw [show w.heap.size + 7 = wr.heap.size from by omega]
    simp only [World.frozen?, heap_new]; simp

theorem Inv.drewN {w wr : World} {was : Nat → Bool} {R : Nat → Int} {k : Nat} (h : Inv w was R k wr) (n : Nat) : Inv w was R k (wr.drewN n) := by
  have hc : ∀ a, (wr.drewN n).cell? a = wr.cell? a := fun a => by simp
  have hf : ∀ a, (wr.drewN n).frozen? a = wr.frozen? a := fun a => by simp
  exact ⟨below_drewN h.bel n, fun j hj => (hc _).trans (h.wst j hj), ⟨(hc _).trans h.ply.1, (hf _).trans h.ply.2⟩, fun j hj => (hc _).trans (h.ptr j hj), fun j hj => ⟨(hc _).trans (h.mrk j hj).1, (hf _).trans (h.mrk j hj).2⟩, fun j hj => ⟨(hc _).trans (h.sen j hj).1, (hf _).trans (h.sen j hj).2⟩⟩

/-- A pick of a life that is marked: nothing turns. -/
theorem Inv.stay {w wr : World} {was : Nat → Bool} {R : Nat → Int} {k j : Nat} (h : Inv w was R k wr) (hj : R k % 4 = (j : Int)) (hm : (was j || seen was R k j) = true) : Inv w was R (k + 1) wr := by
  have hs : ∀ i, seen was R (k + 1) i = seen was R k i := by
    intro i
    rw [seen_succ]
    split
    · rename_i hc
      have e : i = j := by omega
      subst e
      rw [hc.2] at hm
      simpa using hm.symm
    · rfl
  have hc : cnt was R (k + 1) = cnt was R k := by
    rw [cnt_succ, hj, Int.toNat_natCast, if_neg]
    rintro ⟨e1, e2⟩
    rw [e1, e2] at hm
    cases hm
  exact ⟨h.bel, h.wst, by rw [hc]; exact h.ply, h.ptr, fun i hi => by rw [hs]; exact h.mrk i hi, fun i hi => by rw [hs]; exact h.sen i hi⟩

/-- A pick of a life that is not: it is marked and counted. -/
theorem Inv.turn {w wr : World} {was : Nat → Bool} {R : Nat → Int} {k j : Nat} (h : Inv w was R k wr) (hj : R k % 4 = (j : Int)) (hj4 : j < 4) (hw : was j = false) (hs : seen was R k j = false) :
    Inv w was R (k + 1) (((wr.setCell ⟨w.heap.size + 3 + j, 3, none⟩ (.bool true)).setCell ⟨w.heap.size + 1, 33, none⟩ (.int .i64 ((cnt was R k : Int) + 1))).setCell ⟨w.heap.size + 7, j, none⟩ (.bool true)) := by
  have hs' : ∀ i, seen was R (k + 1) i = if i = j then true else seen was R k i := by
    intro i
    rw [seen_succ]
    by_cases e : i = j
    · subst e; simp [hj, hw]
    · rw [if_neg (by omega), if_neg e]
  have hc : cnt was R (k + 1) = cnt was R k + 1 := by
    rw [cnt_succ, hj, Int.toNat_natCast, if_pos ⟨hw, hs⟩]
  refine ⟨?_, fun i hi => ?_, ⟨?_, ?_⟩, fun i hi => ?_, fun i hi => ⟨?_, ?_⟩, fun i hi => ⟨?_, ?_⟩⟩
  · exact ((h.bel.setCell (by show w.heap.size ≤ w.heap.size + 3 + j; omega) _).setCell (by show w.heap.size ≤ w.heap.size + 1; omega) _).setCell (by show w.heap.size ≤ w.heap.size + 7; omega) _
  · exact cell_set_other (by intro e; injection e with e1; omega) (cell_set_other (by intro e; injection e with e1; omega) (cell_set_other (by intro e; injection e with e1; omega) (h.wst i hi)))
  · rw [hc]
    exact cell_set_other (by intro e; injection e with e1; omega) (World.cell?_setCell_same _ _ _ (cell_set_other (by intro e; injection e with e1; omega) h.ply.1))
  · exact frozen_set (frozen_set (frozen_set h.ply.2))
  · exact cell_set_other (by intro e; injection e with e1; omega) (cell_set_other (by intro e; injection e with e1; omega) (cell_set_other (by intro e; injection e with e1; omega) (h.ptr i hi)))
  · refine cell_set_other (by intro e; injection e with e1; omega) (cell_set_other (by intro e; injection e with e1; omega) ?_)
    rw [hs']
    by_cases e : i = j
    · subst e
      rw [if_pos rfl, Bool.or_true]
      exact World.cell?_setCell_same _ _ _ (h.mrk i hi).1
    · rw [if_neg e]
      exact cell_set_other (by intro e'; injection e' with e1; omega) (h.mrk i hi).1
  · exact frozen_set (frozen_set (frozen_set (h.mrk i hi).2))
  · rw [hs']
    by_cases e : i = j
    · subst e
      rw [if_pos rfl]
      exact World.cell?_setCell_same _ _ _ (cell_set_other (by intro e; injection e with e1; omega) (cell_set_other (by intro e; injection e with e1; omega) (h.sen i hi).1))
    · rw [if_neg e]
      exact cell_set_other (by intro e'; injection e' with e1 e2; omega) (cell_set_other (by intro e; injection e with e1; omega) (cell_set_other (by intro e; injection e with e1; omega) (h.sen i hi).1))
  · exact frozen_set (frozen_set (frozen_set (h.sen i hi).2))

end Go.Proofs.Ybulkasxi

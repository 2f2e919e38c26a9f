/-
  LawS2216AFloor: what holds between two rounds of newRunStarts' range.
-/
import Derived.Test.YbulkaswgLeaves
namespace Go.Proofs.Ybulkaswg
open Go.RowKit Go.Shelf

theorem cells_kept {W W' : World} {row : Option Nat} {B t : Nat} {cur : Array Value} {fz : Nat × Nat} (h : W.heap[B]? = some (.cells cur t fz)) (hg : W.grownBy W' row) (hr : ∀ r, row = some r → ∃ o : Obj, W.heap[r]? = some o ∧ o.isCells = false) :
    W'.heap[B]? = some (.cells cur t fz) := by
  rw [hg.block B (Array.getElem?_eq_some_iff.1 h).1 ?_]
  · exact h
  · intro e
    obtain ⟨o, ho, hc⟩ := hr B e.symm
    rw [h] at ho
    cases ho
    simp [Obj.isCells] at hc

theorem ownsRow_of_block {W W' : World} {base e size n : Nat} {v : Value} {xs : List Value} (h : W.ownsRow base e size v n xs) (hb : ∀ B, some B = v.ownBlock → W'.heap[B]? = W.heap[B]?) : W'.ownsRow base e size v n xs := by
  refine ⟨h.1, ?_⟩
  rcases h.2 with ⟨rfl, h0⟩ | ⟨g, cap, cur, rfl, h1, h2, h3⟩
  · exact .inl ⟨rfl, h0⟩
  · exact .inr ⟨g, cap, cur, rfl, h1, (hb g rfl).trans h2, h3⟩

theorem Leaves.kept {C : Nat → Nat} {b len base N : Nat} {pre : List {t : Nat // t < N}} {W W' : World} {v : Value} {NB : Nat → Nat} {row : Option Nat} (h : Leaves C b len base N pre W v NB) (hg : W.grownBy W' row) (hr : ∀ r, row = some r → ∃ o : Obj, W.heap[r]? = some o ∧ o.isCells = false) :
    Leaves C b len base N pre W' v NB := by
  refine ⟨cells_kept h.box hg hr, ?_, h.nil, fun i hi => cells_kept (h.node i hi) hg hr, h.lo, h.inc⟩
  refine ⟨h.row.1, ?_⟩
  rcases h.row.2 with ⟨h0, h1⟩ | ⟨g, cap, cur, h0, h1, h2, h3⟩
  · exact .inl ⟨h0, h1⟩
  · exact .inr ⟨g, cap, cur, h0, h1, cells_kept h2 hg hr, h3⟩

/-- Between two rounds. -/
def Inv (C : Nat → Nat) (b len base N : Nat) (w : World) (pre : List {t : Nat // t < N}) (W : World) : Prop :=
  (∃ v NB, Leaves C b len base N pre W v NB) ∧ Below base w W ∧ Boxed W (base + 1) 26 (.slice (some ⟨b, 0, none⟩) len len) ∧ Boxed W (base + 2) 3 (.int .i64 64)

theorem inv_own {C : Nat → Nat} {b len base N : Nat} {w : World} (hb : base ≤ w.heap.size) (m : Nat) (hm : base ≤ m) : OwnFrom m (Inv C b len base N w) := by
  rintro s W W' row ⟨⟨v, NB, hL⟩, hB, b1, b2⟩ hg hr
  have hr' : ∀ r, row = some r → ∃ o : Obj, W.heap[r]? = some o ∧ o.isCells = false := fun r e => (hr r e).2
  exact ⟨⟨v, NB, hL.kept hg hr'⟩, hB.grown hg (Nat.le_trans hb hB.size) (fun k e => Nat.le_trans hm (hr k e).1), cells_kept b1 hg hr', cells_kept b2 hg hr'⟩

/-- The first leaf's round. -/
theorem inv_one {C : Nat → Nat} {b len base N : Nat} {W W2 : World} {pre : List {t : Nat // t < N}} {v : Value} {NB : Nat → Nat} (hL : Leaves C b len base N pre W v NB) (b1 : Boxed W (base + 1) 26 (.slice (some ⟨b, 0, none⟩) len len)) (b2 : Boxed W (base + 2) 3 (.int .i64 64))
    (hfr : ∀ B, B < W.heap.size → B ≠ base → some B ≠ v.ownBlock → W2.heap[B]? = W.heap[B]?) : Boxed W2 (base + 1) 26 (.slice (some ⟨b, 0, none⟩) len len) ∧ Boxed W2 (base + 2) 3 (.int .i64 64) ∧ KeepBoxes (base + 1) (base + 2) W W2 := by
  have a1 : Boxed W2 (base + 1) 26 (.slice (some ⟨b, 0, none⟩) len len) := (hfr _ b1.lt (by omega) (b1.not_row (by decide) hL.row)).trans b1
  have a2 : Boxed W2 (base + 2) 3 (.int .i64 64) := (hfr _ b2.lt (by omega) (b2.not_row (by decide) hL.row)).trans b2
  refine ⟨a1, a2, fun u hu => ?_, fun u hu => ?_⟩
  · rw [b1.cell] at hu
    rw [a1.cell]
    exact hu
  · rw [b2.cell] at hu
    rw [a2.cell]
    exact hu

/-- A later leaf's round: the link of the leaf before it is set. -/
theorem inv_more {C : Nat → Nat} {b len base N : Nat} {w W W2 : World} {pre : List {t : Nat // t < N}} (x : {t : Nat // t < N}) {v v' : Value} {NB : Nat → Nat} (hL : Leaves C b len base N pre W v NB) (hB : Below base w W) (b1 : Boxed W (base + 1) 26 (.slice (some ⟨b, 0, none⟩) len len)) (b2 : Boxed W (base + 2) 3 (.int .i64 64))
    (hfr : ∀ B, B < W.heap.size → B ≠ base → some B ≠ v.ownBlock → W2.heap[B]? = W.heap[B]?) (bL2 : Boxed W2 base 53 v')
    (row2 : W2.ownsRow base 57 1 v' (pre.length + 1) (((List.range pre.length).map fun i => Value.pointer (some ⟨NB i, 0, none⟩)) ++ [Value.pointer (some ⟨W.heap.size, 0, none⟩)])) (hnil : v' ≠ .slice none 0 0)
    (hk2 : KeepsOthers W W2) (hb2 : Below base W W2) (hnew : LeafAt W2 W.heap.size (C (64 * x.1)) (piece b len x.1) none) (q : Nat) (hq : pre.length = q + 1) (m : Nat) :
    KeepsFrom m W (W2.drew.setCell ⟨NB q, 3, none⟩ (.pointer (some ⟨W.heap.size, 0, none⟩))) ∧ KeepBoxes (base + 1) (base + 2) W (W2.drew.setCell ⟨NB q, 3, none⟩ (.pointer (some ⟨W.heap.size, 0, none⟩))) ∧
      Inv C b len base N w (pre ++ [x]) (W2.drew.setCell ⟨NB q, 3, none⟩ (.pointer (some ⟨W.heap.size, 0, none⟩))) := by
  obtain ⟨c1, c2, hkp⟩ := inv_one hL b1 b2 hfr
  have hlo := hL.lo q (by omega)
  have hleaf : ∀ i (h : i < pre.length), LeafAt W2 (NB i) (C (64 * (pre[i]).1)) (piece b len (pre[i]).1) (if i + 1 < pre.length then some ⟨NB (i + 1), 0, none⟩ else none) := fun i h =>
    (hL.node i h).of_block (hfr _ (hL.node i h).lt (by have := hL.lo i h; omega) ((hL.node i h).not_row hL.row))
  have hlast := hleaf q (by omega)
  have hset : ∀ B, B ≠ NB q → (W2.drew.setCell ⟨NB q, 3, none⟩ (.pointer (some ⟨W.heap.size, 0, none⟩))).heap[B]? = W2.heap[B]? := fun B hB => Below.heap_setCell W2.drew _ _ B hB
  have hqlt := (hL.node q (by omega)).lt
  generalize hW3 : W2.drew.setCell ⟨NB q, 3, none⟩ (.pointer (some ⟨W.heap.size, 0, none⟩)) = W3 at hset ⊢
  have a1 : Boxed W3 (base + 1) 26 (.slice (some ⟨b, 0, none⟩) len len) := (hset _ (by omega)).trans c1
  have a2 : Boxed W3 (base + 2) 3 (.int .i64 64) := (hset _ (by omega)).trans c2
  refine ⟨KeepsOthers.from ⟨?_, fun k o hk ho => ?_⟩ m, ⟨fun u hu => ?_, fun u hu => ?_⟩, ⟨v', _, leaves_snoc (NB := NB) (NBn := W.heap.size) x ((hset _ (by omega)).trans bL2) (ownsRow_of_block row2 fun B hB => ?_) hnil (fun i h => ?_) ((hset _ (by omega)).trans hnew) hL.lo (by have := b2.lt; omega) hL.inc (fun i h => (hL.node i h).lt)⟩, ?_, a1, a2⟩
  · rw [← hW3]
    simpa using hk2.size
  · rw [hset k ?_]
    · exact hk2.same k o hk ho
    · rintro rfl
      rw [show W.heap[NB q]? = _ from hL.node q (by omega)] at hk
      cases hk
      simp [Obj.isCells] at ho
  · rw [b1.cell] at hu
    rw [a1.cell]
    exact hu
  · rw [b2.cell] at hu
    rw [a2.cell]
    exact hu
  · refine hset B ?_
    rintro rfl
    exact hlast.not_row row2 hB
  · by_cases c : i = q
    · subst c
      rw [if_neg (by omega), ← hW3]
      exact LeafAt.set (W := W2.drew) hlast _
    · have hi : i + 1 < pre.length := by omega
      have := hleaf i h
      rw [if_pos hi] at this ⊢
      exact (hset _ (by have := hL.inc i q (by omega) (by omega); omega)).trans this
  · rw [← hW3]
    exact (hB.trans hb2).drew.setCell (by show base ≤ NB q; omega) _

end Go.Proofs.Ybulkaswg

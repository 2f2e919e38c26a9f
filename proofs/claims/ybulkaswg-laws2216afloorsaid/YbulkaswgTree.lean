/-
  LawS2216AFloor: the tree of starts, as a plain fact on a world.
-/
import Derived.Test.YbulkaswgInv
namespace Go.Proofs.Ybulkaswg
open Go.RowKit Go.Shelf

/-- An inner node, as a whole block. -/
def RootAt (W : World) (B : Nat) (least : Nat) (kids : Value) : Prop :=
  W.heap[B]? = some (.cells #[.int .u64 ((least : Nat) : Int), kids, .slice none 0 0, .pointer none] 59 (0, 0))

theorem RootAt.lt {W : World} {B least : Nat} {k : Value} (h : RootAt W B least k) : B < W.heap.size := (Array.getElem?_eq_some_iff.1 h).1
theorem RootAt.c0 {W : World} {B least : Nat} {k : Value} (h : RootAt W B least k) : W.cell? ⟨B, 0, none⟩ = some (.int .u64 ((least : Nat) : Int)) := by simp [World.cell?, show W.heap[B]? = _ from h]
theorem RootAt.c1 {W : World} {B least : Nat} {k : Value} (h : RootAt W B least k) : W.cell? ⟨B, 1, none⟩ = some k := by simp [World.cell?, show W.heap[B]? = _ from h]

/-- What buildTree (11) over the leaves' row does. -/
def Build11 (F : Fence) (n : Nat) : Prop :=
  ∀ (g N cap : Nat) (NB : Nat → Nat) (c0 : Nat) (W : World), 1 ≤ N → N ≤ 16 → N ≤ cap → g < W.heap.size → NB 0 < W.heap.size → (∀ i, i < N → W.cell? ⟨g, i, none⟩ = some (.pointer (some ⟨NB i, 0, none⟩))) → W.cell? ⟨NB 0, 0, none⟩ = some (.int .u64 ((c0 : Nat) : Int)) →
    CallsIn F n Yba.prog 11 #[.slice (some ⟨g, 0, none⟩) N cap, .func (.func 12) #[] #[]] W fun e W' =>
      ∃ RB, e = .returned (.pointer (some ⟨RB, 0, none⟩)) ∧ Below W.heap.size W W' ∧ ((N = 1 ∧ RB = NB 0) ∨ (2 ≤ N ∧ W.heap.size ≤ RB ∧ RootAt W' RB c0 (.slice (some ⟨g, 0, none⟩) N N)))

/-- The runStarts at XB over its nodes, the leaves p0 and p1 remembered. -/
structure Tree (C : Nat → Nat) (b len N XB : Nat) (NB : Nat → Nat) (RB g : Nat) (W : World) (p0 p1 : Option Nat) : Prop where
  xs : W.heap[XB]? = some (.cells #[.pointer (some ⟨RB, 0, none⟩), .pointer (p0.map fun i => ⟨NB i, 0, none⟩), .pointer (p1.map fun i => ⟨NB i, 0, none⟩)] 68 (0, 0))
  node : ∀ i, i < N → LeafAt W (NB i) (C (64 * i)) (piece b len i) (if i + 1 < N then some ⟨NB (i + 1), 0, none⟩ else none)
  root : (N = 1 ∧ RB = NB 0) ∨ (2 ≤ N ∧ RootAt W RB (C 0) (.slice (some ⟨g, 0, none⟩) N N))
  kid : ∀ i, i < N → W.cell? ⟨g, i, none⟩ = some (.pointer (some ⟨NB i, 0, none⟩))
  gx : g ≠ XB
  gl : g < W.heap.size
  bx : b ≠ XB
  bl : b < W.heap.size
  st : ∀ i, i < len → W.cell? ⟨b, 2 * i, none⟩ = some (.int .u64 ((C i : Nat) : Int)) ∧ W.cell? ⟨b, 2 * i + 1, none⟩ = some (.pointer none)
  q0 : ∀ i, p0 = some i → i < N
  q1 : ∀ i, p1 = some i → i < N

end Go.Proofs.Ybulkaswg

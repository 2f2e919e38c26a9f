/-
  LawS2216AFloor: the leaves that newRunStarts (6) lays, as plain facts on worlds.
-/
import Derived.Test.YbulkaswgRound
namespace Go.Proofs.Ybulkaswg
open Go.RowKit Go.Shelf

theorem info57 : (Yba.prog.info? 57).map (fun i => (i.zero, i.size, i.bytes)) = some (some (.pointer none), 1, 8) := by kernel_rfl

/-- A leaf node, as a whole block. -/
def LeafAt (W : World) (B : Nat) (least : Nat) (st : Value) (nx : Option Addr) : Prop :=
  W.heap[B]? = some (.cells #[.int .u64 ((least : Nat) : Int), .slice none 0 0, st, .pointer nx] 59 (0, 0))

theorem LeafAt.lt {W : World} {B least : Nat} {st : Value} {nx : Option Addr} (h : LeafAt W B least st nx) : B < W.heap.size := (Array.getElem?_eq_some_iff.1 h).1
theorem LeafAt.c0 {W : World} {B least : Nat} {st : Value} {nx : Option Addr} (h : LeafAt W B least st nx) : W.cell? ⟨B, 0, none⟩ = some (.int .u64 ((least : Nat) : Int)) := by simp [World.cell?, show W.heap[B]? = _ from h]
theorem LeafAt.c1 {W : World} {B least : Nat} {st : Value} {nx : Option Addr} (h : LeafAt W B least st nx) : W.cell? ⟨B, 1, none⟩ = some (.slice none 0 0) := by simp [World.cell?, show W.heap[B]? = _ from h]
theorem LeafAt.c2 {W : World} {B least : Nat} {st : Value} {nx : Option Addr} (h : LeafAt W B least st nx) : W.cell? ⟨B, 2, none⟩ = some st := by simp [World.cell?, show W.heap[B]? = _ from h]
theorem LeafAt.c3 {W : World} {B least : Nat} {st : Value} {nx : Option Addr} (h : LeafAt W B least st nx) : W.cell? ⟨B, 3, none⟩ = some (.pointer nx) := by simp [World.cell?, show W.heap[B]? = _ from h]
theorem LeafAt.f3 {W : World} {B least : Nat} {st : Value} {nx : Option Addr} (h : LeafAt W B least st nx) : W.frozen? ⟨B, 3, none⟩ = false := by simp [World.frozen?, show W.heap[B]? = _ from h]

theorem LeafAt.set {W : World} {B least : Nat} {st : Value} {nx : Option Addr} (h : LeafAt W B least st nx) (ny : Option Addr) : LeafAt (W.setCell ⟨B, 3, none⟩ (.pointer ny)) B least st ny := by
  obtain ⟨hlt, hk⟩ := Array.getElem?_eq_some_iff.1 h
  show (W.heap.modify B _)[B]? = _
  rw [Array.getElem?_eq_getElem (by rw [Array.size_modify]; exact hlt), Array.getElem_modify_self, hk]
  rfl

theorem LeafAt.of_block {W W' : World} {B least : Nat} {st : Value} {nx : Option Addr} (h : LeafAt W B least st nx) (e : W'.heap[B]? = W.heap[B]?) : LeafAt W' B least st nx := e.trans h

/-- A row's block is no node's. -/
theorem LeafAt.not_row {W : World} {B least : Nat} {st : Value} {nx : Option Addr} (h : LeafAt W B least st nx) {base size k : Nat} {v : Value} {xs : List Value} (hr : W.ownsRow base 57 size v k xs) : some B ≠ v.ownBlock := by
  rcases hr.2 with ⟨rfl, _⟩ | ⟨g, cap, cur, rfl, _, hgb, _⟩
  · simp [Value.ownBlock]
  · intro e'
    obtain rfl : B = g := by simpa [Value.ownBlock] using e'
    have := (show W.heap[B]? = _ from h).symm.trans hgb
    simp at this

/-- The leaves of the pieces that have come. -/
structure Leaves (C : Nat → Nat) (b len base N : Nat) (pre : List {t : Nat // t < N}) (W : World) (v : Value) (NB : Nat → Nat) : Prop where
  box : Boxed W base 53 v
  row : W.ownsRow base 57 1 v pre.length ((List.range pre.length).map fun i => Value.pointer (some ⟨NB i, 0, none⟩))
  nil : v = .slice none 0 0 ↔ pre = []
  node : ∀ i (h : i < pre.length), LeafAt W (NB i) (C (64 * (pre[i]).1)) (piece b len (pre[i]).1) (if i + 1 < pre.length then some ⟨NB (i + 1), 0, none⟩ else none)
  lo : ∀ i, i < pre.length → base + 3 ≤ NB i
  inc : ∀ i j, i < j → j < pre.length → NB i < NB j

/-- The world behind 'leaves = append(leaves, &startNode{..})'. -/
theorem leaves_mid {C : Nat → Nat} {b len base N : Nat} {pre : List {t : Nat // t < N}} {W Wx w1 : World} {v v' : Value} {NB : Nat → Nat} (x : {t : Nat // t < N}) {ys : List Value} (hL : Leaves C b len base N pre W v NB) (hbs : base ≤ W.heap.size)
    (hWx : ((W.alloc (.cells #[.int .u64 ((C (64 * x.1) : Nat) : Int), .slice none 0 0, piece b len x.1, .pointer none] 59)).alloc (.cells #[.pointer (some ⟨W.heap.size, 0, none⟩)] 57)).drew = Wx)
    (hown : w1.ownsRow base 57 1 v' (pre.length + 1) ys) (hgrow : Wx.grownBy w1 v.ownBlock) :
    Boxed w1 base 53 v ∧ Boxed (w1.setCell ⟨base, 0, none⟩ v') base 53 v' ∧ (w1.setCell ⟨base, 0, none⟩ v').ownsRow base 57 1 v' (pre.length + 1) ys ∧ KeepsOthers W (w1.setCell ⟨base, 0, none⟩ v') ∧ Below base W (w1.setCell ⟨base, 0, none⟩ v') ∧
    (∀ B, B < W.heap.size → B ≠ base → some B ≠ v.ownBlock → (w1.setCell ⟨base, 0, none⟩ v').heap[B]? = W.heap[B]?) ∧
    LeafAt (w1.setCell ⟨base, 0, none⟩ v') W.heap.size (C (64 * x.1)) (piece b len x.1) none := by
  subst hWx
  have hg2 : ((W.alloc (.cells #[.int .u64 ((C (64 * x.1) : Nat) : Int), .slice none 0 0, piece b len x.1, .pointer none] 59)).alloc (.cells #[.pointer (some ⟨W.heap.size, 0, none⟩)] 57)).grownBy w1 v.ownBlock := ⟨hgrow.os, hgrow.tape, hgrow.output, hgrow.size, hgrow.block⟩
  have hbx := hL.box.alloc (.cells #[.int .u64 ((C (64 * x.1) : Nat) : Int), .slice none 0 0, piece b len x.1, .pointer none] 59)
  have hrw := hL.row.alloc (.cells #[.int .u64 ((C (64 * x.1) : Nat) : Int), .slice none 0 0, piece b len x.1, .pointer none] 59)
  obtain ⟨h1, h2, h3, h4, h5⟩ := hbx.appended (by decide) hrw (by simp; omega) (Nat.le_refl _) hown hg2
  have hblt := hL.box.lt
  have hne : ∀ B, B < W.heap.size + 1 → B ≠ base → some B ≠ v.ownBlock → (w1.setCell ⟨base, 0, none⟩ v').heap[B]? = (W.alloc (.cells #[.int .u64 ((C (64 * x.1) : Nat) : Int), .slice none 0 0, piece b len x.1, .pointer none] 59)).heap[B]? := fun B hB hb hr => by
    rw [Below.heap_setCell _ _ _ B (fun e => hb e)]
    rw [hg2.block B (by simp; omega) hr]
    exact Below.heap_alloc _ _ _ (by simp; omega)
  refine ⟨h1, h2, h3, (KeepsOthers.alloc _ _).trans h4, ((Below.refl _ W).alloc hbs _).trans h5, fun B hB hb hr => ?_, ?_⟩
  · rw [hne B (by omega) hb hr]
    exact Below.heap_alloc _ _ _ hB
  · refine (hne W.heap.size (by omega) (by omega) ?_).trans (World.alloc_heap_new W _)
    rcases hL.row.2 with ⟨rfl, _⟩ | ⟨g, cap, cur, rfl, _, hgb, _⟩
    · simp [Value.ownBlock]
    · have := (Array.getElem?_eq_some_iff.1 hgb).1
      simp [Value.ownBlock]
      omega

/-- One leaf more. -/
theorem leaves_snoc {C : Nat → Nat} {b len base N : Nat} {pre : List {t : Nat // t < N}} {W3 : World} {v' : Value} {NB : Nat → Nat} {NBn : Nat} (x : {t : Nat // t < N}) (hbox : Boxed W3 base 53 v')
    (hrow : W3.ownsRow base 57 1 v' (pre.length + 1) (((List.range pre.length).map fun i => Value.pointer (some ⟨NB i, 0, none⟩)) ++ [Value.pointer (some ⟨NBn, 0, none⟩)])) (hnil : v' ≠ .slice none 0 0)
    (hold : ∀ i (h : i < pre.length), LeafAt W3 (NB i) (C (64 * (pre[i]).1)) (piece b len (pre[i]).1) (if i + 1 < pre.length then some ⟨NB (i + 1), 0, none⟩ else some ⟨NBn, 0, none⟩))
    (hnew : LeafAt W3 NBn (C (64 * x.1)) (piece b len x.1) none) (hlo : ∀ i, i < pre.length → base + 3 ≤ NB i) (hlo' : base + 3 ≤ NBn) (hinc : ∀ i j, i < j → j < pre.length → NB i < NB j) (hlt : ∀ i, i < pre.length → NB i < NBn) :
    Leaves C b len base N (pre ++ [x]) W3 v' (fun i => if i < pre.length then NB i else NBn) := by
  refine ⟨hbox, ?_, ⟨fun h => absurd h hnil, fun h => by simp at h⟩, fun i h => ?_, fun i h => ?_, fun i j hij hj => ?_⟩
  · have e : ((List.range (pre ++ [x]).length).map fun i => Value.pointer (some ⟨if i < pre.length then NB i else NBn, 0, none⟩)) = ((List.range pre.length).map fun i => Value.pointer (some ⟨NB i, 0, none⟩)) ++ [Value.pointer (some ⟨NBn, 0, none⟩)] := by
      rw [List.length_append, List.length_singleton, List.range_succ, List.map_append]
      congr 1
      · apply List.map_congr_left
        intro i hi
        rw [if_pos (List.mem_range.1 hi)]
      · simp
    rw [e]
    simpa using hrow
  · rw [List.length_append, List.length_singleton] at h
    by_cases c : i < pre.length
    · have hg : (pre ++ [x])[i]'(by simp; omega) = pre[i] := List.getElem_append_left c
      rw [hg]
      rw [if_pos c, if_pos (show i + 1 < (pre ++ [x]).length by simp; omega)]
      have := hold i c
      by_cases c2 : i + 1 < pre.length
      · rw [if_pos c2] at this ⊢
        exact this
      · rw [if_neg c2] at this ⊢
        exact this
    · have hi : i = pre.length := by omega
      subst hi
      have hg : (pre ++ [x])[pre.length]'(by simp) = x := by simp
      rw [hg]
      rw [if_neg c, if_neg (show ¬ pre.length + 1 < (pre ++ [x]).length by simp)]
      exact hnew
  · split
    · exact hlo i (by assumption)
    · exact hlo'
  · rw [List.length_append, List.length_singleton] at hj
    rw [if_pos (show i < pre.length by omega)]
    split
    · exact hinc i j hij (by assumption)
    · exact hlt i (by omega)

end Go.Proofs.Ybulkaswg

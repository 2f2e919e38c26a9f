/-
  LawS2216BStepFrom (5): the parts outside the walk.
-/
import Derived.Test.YbulkaswgScriptParts
namespace Go.Proofs.Ybulkaswg
open Go.RowKit Go.Maps

def hasV (hs : Nat → Bool) : Array Value := #[.bool (hs 0), .bool (hs 1), .bool (hs 2)]
def exV (el ei : Nat → Int) : Array Value := #[.int .u64 (el 0), .int .u64 (ei 0), .int .u64 (el 1), .int .u64 (ei 1), .int .u64 (el 2), .int .u64 (ei 2)]

theorem has_cells {w : World} {b : Nat} {hs : Nat → Bool} (h : w.heap[b]? = some (.cells #[.bool (hs 0), .bool (hs 1), .bool (hs 2)] 49 (0, 0))) (j : Nat) (hj : j < 3) :
    w.cell? ⟨b, j, none⟩ = some (.bool (hs j)) := by
  match j, hj with
  | 0, _ | 1, _ | 2, _ => simp [World.cell?, h]

theorem ex_cells {w : World} {b : Nat} {el ei : Nat → Int} (h : w.heap[b]? = some (.cells #[.int .u64 (el 0), .int .u64 (ei 0), .int .u64 (el 1), .int .u64 (ei 1), .int .u64 (el 2), .int .u64 (ei 2)] 51 (0, 0))) (j : Nat) (hj : j < 3) :
    w.cell? ⟨b, j * 2, none⟩ = some (.int .u64 (el j)) ∧ w.cell? ⟨b, j * 2 + 1, none⟩ = some (.int .u64 (ei j)) := by
  match j, hj with
  | 0, _ | 1, _ | 2, _ => simp [World.cell?, h]

/-- What the map holds after k rounds of the first loop. -/
def F (hs : Nat → Bool) (el ei : Nat → Int) : Nat → List UInt8 → Option (Int × Int)
  | 0 => fun _ => none
  | k + 1 => if hs k then put (F hs el ei k) (nm k) (el k, ei k) else F hs el ei k
def cF (hs : Nat → Bool) : Nat → Nat
  | 0 => 0
  | k + 1 => if hs k then cF hs k + 1 else cF hs k

theorem F_ge (hs : Nat → Bool) (el ei : Nat → Int) : ∀ k, k ≤ 4 → ∀ j, k ≤ j → j < 4 → F hs el ei k (nm j) = none
  | 0, _, _, _, _ => rfl
  | k + 1, hk, j, hj, h4 => by
    have ih := F_ge hs el ei k (by omega) j (by omega) h4
    unfold F
    split
    · rw [put_nm _ j k h4 (by omega), if_neg (by omega), ih]
    · exact ih

theorem F_lt (hs : Nat → Bool) (el ei : Nat → Int) : ∀ k, k ≤ 4 → ∀ j, j < k → F hs el ei k (nm j) = if hs j then some (el j, ei j) else none
  | 0, _, _, h => by omega
  | k + 1, hk, j, hj => by
    unfold F
    by_cases e : j = k
    · subst e
      cases h : hs j
      · simp [F_ge hs el ei j (by omega) j (Nat.le_refl _) (by omega)]
      · simp [put_same]
    · have ih := F_lt hs el ei k (by omega) j (by omega)
      split
      · rw [put_nm _ j k (by omega) (by omega), if_neg e, ih]
      · exact ih

theorem cF_le (hs : Nat → Bool) : ∀ k, cF hs k ≤ k
  | 0 => Nat.le_refl _
  | k + 1 => by
    have := cF_le hs k
    unfold cF
    split <;> omega

structure J (w : World) (c i p : Int) (hs : Nat → Bool) (el ei : Nat → Int) (q : Nat) (wr : World) : Prop where
  has : wr.heap[w.heap.size]? = some (.cells #[.bool (hs 0), .bool (hs 1), .bool (hs 2)] 49 (0, 0))
  ext : wr.heap[w.heap.size + 1]? = some (.cells #[.int .u64 (el 0), .int .u64 (ei 0), .int .u64 (el 1), .int .u64 (ei 1), .int .u64 (el 2), .int .u64 (ei 2)] 51 (0, 0))
  tal : wr.heap[w.heap.size + 2]? = some (tallyO c i p (some (w.heap.size + 3)))
  tab : Tab wr (w.heap.size + 3) (F hs el ei q) (cF hs q)
  bel : Below w.heap.size w wr
  siz : w.heap.size + 4 ≤ wr.heap.size

/-- A round of the first loop that stores. -/
theorem J_step {w wr W2 : World} {c i p : Int} {hs : Nat → Bool} {el ei : Nat → Int} {q : Nat} {es : Array MapEntry} {clock : Nat} (h : J w c i p hs el ei q wr) (hq : q < 3) (hh : hs q = true)
    (hTab : ∀ W : World, W.heap[w.heap.size + 3]? = some (.map es clock) → Tab W (w.heap.size + 3) (put (F hs el ei q) (nameOf (q : Int)).data.toList (el q, ei q)) (if (F hs el ei q (nameOf (q : Int)).data.toList).isSome then cF hs q else cF hs q + 1))
    (hW2 : W2 = ChangeMaps.setBlock wr.drew (w.heap.size + 3) (.map es clock)) : J w c i p hs el ei (q + 1) W2 := by
  obtain ⟨es0, clock0, hM0⟩ := h.tab.isMapBlock
  have hM0' : wr.drew.heap[w.heap.size + 3]? = some (.map es0 clock0) := hM0
  subst hW2
  have e : F hs el ei q (nameOf (q : Int)).data.toList = none := F_ge hs el ei q (by omega) q (Nat.le_refl _) (by omega)
  refine ⟨(setBlock_other hM0' _ (by omega)).trans h.has, (setBlock_other hM0' _ (by omega)).trans h.ext, (setBlock_other hM0' _ (by omega)).trans h.tal, ?_, ?_, ?_⟩
  · have := hTab (ChangeMaps.setBlock wr.drew (w.heap.size + 3) (.map es clock)) (ChangeMaps.heap_setBlock_same hM0' _)
    rw [e] at this
    simp only [F, cF, hh, if_true]
    exact this
  · exact h.bel.trans ⟨rfl, rfl, rfl, by simp [ChangeMaps.setBlock], fun k hk => setBlock_other hM0' k (by omega)⟩
  · have := h.siz
    simpa [ChangeMaps.setBlock] using this

theorem clockBy_zero {l : Int} (h : 0 ≤ l) : clockBy 0 l = l := by
  unfold clockBy
  split <;> omega
theorem idsBy_zero {d : Int} (h : 0 ≤ d ∧ d ≤ 18446744073709551615) : idsBy 0 d 0 = d := by
  unfold idsBy
  simp only [wrap_u64]
  omega

/-- The blocks behind four allocs. -/
theorem four_blocks {w W1 : World} {o1 o2 o3 o4 : Obj} (h : (((w.alloc o1).alloc o2).alloc o3).alloc o4 = W1) :
    W1.heap[w.heap.size]? = some o1 ∧ W1.heap[w.heap.size + 1]? = some o2 ∧ W1.heap[w.heap.size + 2]? = some o3 ∧ W1.heap[w.heap.size + 3]? = some o4 ∧ Below w.heap.size w W1 ∧ W1.heap.size = w.heap.size + 4 := by
  subst h
  have s1 : (w.alloc o1).heap.size = w.heap.size + 1 := World.size_alloc _ _
  have s2 : ((w.alloc o1).alloc o2).heap.size = w.heap.size + 2 := by rw [World.size_alloc, s1]
  have s3 : (((w.alloc o1).alloc o2).alloc o3).heap.size = w.heap.size + 3 := by rw [World.size_alloc, s2]
  refine ⟨?_, ?_, ?_, ?_, ?_, by rw [World.size_alloc, s3]⟩
  · exact (Below.heap_alloc _ _ _ (by omega)).trans ((Below.heap_alloc _ _ _ (by omega)).trans ((Below.heap_alloc _ _ _ (by omega)).trans (heap_alloc_new' _ _)))
  · refine (Below.heap_alloc _ _ _ (by omega)).trans ((Below.heap_alloc _ _ _ (by omega)).trans ?_)
    rw [← s1]; exact heap_alloc_new' _ _
  · refine (Below.heap_alloc _ _ _ (by omega)).trans ?_
    rw [← s2]; exact heap_alloc_new' _ _
  · rw [← s3]; exact heap_alloc_new' _ _
  · exact ((((Below.refl _ _).alloc (Nat.le_refl _) _).alloc (by omega) _).alloc (by omega) _).alloc (by omega) _

theorem J_start (w : World) (c i p : Int) (hs : Nat → Bool) (el ei : Nat → Int) : J w c i p hs el ei 0 ((((w.alloc (.cells #[.bool (hs 0), .bool (hs 1), .bool (hs 2)] 49)).alloc (.cells #[.int .u64 (el 0), .int .u64 (ei 0), .int .u64 (el 1), .int .u64 (ei 1), .int .u64 (el 2), .int .u64 (ei 2)] 51)).alloc
      (.cells #[.int .u64 c, .int .u64 i, .int .u64 p, .map (some (w.heap.size + 1 + 1 + 1))] 38)).alloc (.map #[] 0)) := by
  obtain ⟨h1, h2, h3, h4, h5, h6⟩ := four_blocks (w := w) (o1 := .cells #[.bool (hs 0), .bool (hs 1), .bool (hs 2)] 49) (o2 := .cells #[.int .u64 (el 0), .int .u64 (ei 0), .int .u64 (el 1), .int .u64 (ei 1), .int .u64 (el 2), .int .u64 (ei 2)] 51)
    (o3 := .cells #[.int .u64 c, .int .u64 i, .int .u64 p, .map (some (w.heap.size + 1 + 1 + 1))] 38) (o4 := .map #[] 0) rfl
  refine ⟨h1, h2, h3, ?_, h5, by omega⟩
  have := Tab.made (((w.alloc (.cells #[.bool (hs 0), .bool (hs 1), .bool (hs 2)] 49)).alloc (.cells #[.int .u64 (el 0), .int .u64 (ei 0), .int .u64 (el 1), .int .u64 (ei 1), .int .u64 (el 2), .int .u64 (ei 2)] 51)).alloc
      (.cells #[.int .u64 c, .int .u64 i, .int .u64 p, .map (some (w.heap.size + 1 + 1 + 1))] 38))
  simp only [World.size_alloc] at this
  exact this

theorem J_skip {w wr : World} {c i p : Int} {hs : Nat → Bool} {el ei : Nat → Int} {q : Nat} (h : J w c i p hs el ei q wr) (hh : hs q = false) : J w c i p hs el ei (q + 1) wr := by
  refine ⟨h.has, h.ext, h.tal, ?_, h.bel, h.siz⟩
  have := h.tab
  simp only [F, cF, hh, Bool.false_eq_true, if_false]
  exact this

/-- Behind 'cover': the other blocks. -/
theorem J_cover {w wr w2 : World} {c i p l d : Int} {hs : Nat → Bool} {el ei : Nat → Int} (h : J w c i p hs el ei 3 wr) (hF : Fr (fun k => k = w.heap.size + 1 + 1 ∨ k = w.heap.size + 3) (wr.alloc (.cells #[.int .u64 l, .int .u64 d] 40)) w2) :
    w2.heap[w.heap.size]? = some (.cells #[.bool (hs 0), .bool (hs 1), .bool (hs 2)] 49 (0, 0)) ∧
    w2.heap[w.heap.size + 1]? = some (.cells #[.int .u64 (el 0), .int .u64 (ei 0), .int .u64 (el 1), .int .u64 (ei 1), .int .u64 (el 2), .int .u64 (ei 2)] 51 (0, 0)) ∧
    w2.heap[wr.heap.size]? = some (.cells #[.int .u64 l, .int .u64 d] 40 (0, 0)) ∧ Below w.heap.size w w2 ∧ wr.heap.size < w2.heap.size := by
  have hz := h.siz
  have hs1 : (wr.alloc (.cells #[.int .u64 l, .int .u64 d] 40)).heap.size = wr.heap.size + 1 := World.size_alloc _ _
  have hz2 := hF.size
  refine ⟨?_, ?_, ?_, ?_, by omega⟩
  · exact (hF.block _ (by omega) (by omega)).trans ((Below.heap_alloc _ _ _ (by omega)).trans h.has)
  · exact (hF.block _ (by omega) (by omega)).trans ((Below.heap_alloc _ _ _ (by omega)).trans h.ext)
  · exact (hF.block _ (by omega) (by omega)).trans (heap_alloc_new' _ _)
  · exact (h.bel.alloc (by omega) _).trans (hF.below (by omega) (by omega))

theorem idsBy_eq (i d o : Int) : idsBy i d o = IntKind.u64.wrap (IntKind.u64.wrap (i + d) - o) := by
  unfold idsBy
  simp only [wrap_u64]
  omega

theorem cell2 {w : World} {a : Addr} {v : Value} (h : w.cell? a = some v) (o1 o2 : Obj) : ((w.alloc o1).alloc o2).cell? a = some v := by
  have hlt : a.block < w.heap.size := World.block_lt_of_cell? w a h
  have e : ((w.alloc o1).alloc o2).heap[a.block]? = w.heap[a.block]? := (Below.heap_alloc _ _ _ (by rw [World.size_alloc]; omega)).trans (Below.heap_alloc _ _ _ hlt)
  exact (World.cell?_of_block (w := w) e).trans h

theorem idsBy_eq0 (i d : Int) : idsBy i d 0 = IntKind.u64.wrap (IntKind.u64.wrap (i + d)) := by
  unfold idsBy
  simp only [wrap_u64]
  omega

end Go.Proofs.Ybulkaswg

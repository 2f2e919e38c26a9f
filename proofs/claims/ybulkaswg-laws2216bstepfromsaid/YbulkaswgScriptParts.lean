/-
  LawS2216BScript (4): the parts outside the walk.
-/
import Derived.Test.YbulkaswgCover
import Derived.Deep.RegionWith
import Derived.Deep.Light
namespace Go.Proofs.Ybulkaswg
open Go.RowKit Go.Maps

theorem cover_both (B : Nat) (m : Option Nat) (c i l d : Int) (s : ByteArray) (f : List UInt8 → Option (Int × Int)) (sz : Nat) (w : World)
    (hB : w.heap[B]? = some (tallyO c i 0 m)) (hT : (m = none ∧ c = 0 ∧ i = 0 ∧ f = (fun _ => none) ∧ sz = 0) ∨ ∃ M, m = some M ∧ Tab w M f sz) (hs : s.size ≤ maxLen) (hn : sz < maxLen) :
    Calls Yba.prog 8 #[.pointer (some ⟨B, 0, none⟩), .string s, .agg #[.int .u64 l, .int .u64 d]] w fun e w' => e = .returned (.tuple #[]) ∧
      ∃ M, (some M = m ∨ w.heap.size ≤ M) ∧ w'.heap[B]? = some (tallyO (clockBy c l) (idsBy i d ((f s.data.toList).getD (0, 0)).2) 0 (some M)) ∧ Tab w' M (put f s.data.toList (l, d)) (if (f s.data.toList).isSome then sz else sz + 1) ∧
        Fr (fun k => k = B ∨ some k = m) w w' := by
  rcases hT with ⟨rfl, rfl, rfl, rfl, rfl⟩ | ⟨M, rfl, hT⟩
  · refine (cover_none B 0 0 0 l d s w hB hs).mono ?_
    rintro e w' ⟨rfl, M, h1, h2, h3, h4⟩
    exact ⟨rfl, M, Or.inr h1, h2, h3, ⟨h4.os, h4.tape, h4.output, h4.size, fun k hk hk' => h4.block k hk (fun e => hk' (Or.inl e))⟩⟩
  · refine (cover_some B M c i 0 l d s f sz w hB hT hs hn).mono ?_
    rintro e w' ⟨rfl, h2, h3, h4⟩
    exact ⟨rfl, M, Or.inl rfl, h2, h3, ⟨h4.os, h4.tape, h4.output, h4.size, fun k hk hk' => h4.block k hk (fun e => hk' (by rcases e with e | e; exact Or.inl e; exact Or.inr (by rw [e])))⟩⟩

/-- The bytes of the j-th name. -/
def nm (j : Nat) : List UInt8 := (nameOf j).data.toList
/-- What the map holds after k steps. -/
def G (R L I : Nat → Int) : Nat → List UInt8 → Option (Int × Int)
  | 0 => fun _ => none
  | k + 1 => put (G R L I k) (nameOf (R k % 4)).data.toList (L k, I k)
def clkTo (L : Nat → Int) : Nat → Int
  | 0 => 0
  | k + 1 => clockBy (clkTo L k) (L k)
def idsTo (R L I : Nat → Int) : Nat → Int
  | 0 => 0
  | k + 1 => idsBy (idsTo R L I k) (I k) ((G R L I k (nameOf (R k % 4)).data.toList).getD (0, 0)).2
def szTo (R L I : Nat → Int) : Nat → Nat
  | 0 => 0
  | k + 1 => if (G R L I k (nameOf (R k % 4)).data.toList).isSome then szTo R L I k else szTo R L I k + 1

def exL (f : List UInt8 → Option (Int × Int)) (j : Nat) : Value := .int .u64 ((f (nm j)).getD (0, 0)).1
def exI (f : List UInt8 → Option (Int × Int)) (j : Nat) : Value := .int .u64 ((f (nm j)).getD (0, 0)).2
def mArr (f : List UInt8 → Option (Int × Int)) : Obj := .cells #[exL f 0, exI f 0, exL f 1, exI f 1, exL f 2, exI f 2, exL f 3, exI f 3] 41 (0, 0)
def pArr (f : List UInt8 → Option (Int × Int)) : Obj := .cells #[.bool (f (nm 0)).isSome, .bool (f (nm 1)).isSome, .bool (f (nm 2)).isSome, .bool (f (nm 3)).isSome] 42 (0, 0)

structure Inv (w : World) (R L I : Nat → Int) (k : Nat) (wr : World) : Prop where
  tal : ∃ m, wr.heap[w.heap.size]? = some (tallyO (clkTo L k) (idsTo R L I k) 0 m) ∧ ((m = none ∧ k = 0) ∨ ∃ M, m = some M ∧ w.heap.size + 3 ≤ M ∧ Tab wr M (G R L I k) (szTo R L I k))
  mod : wr.heap[w.heap.size + 1]? = some (mArr (G R L I k))
  pre : wr.heap[w.heap.size + 2]? = some (pArr (G R L I k))
  bel : Below w.heap.size w wr
  siz : w.heap.size + 3 ≤ wr.heap.size

theorem szTo_le (R L I : Nat → Int) : ∀ k, szTo R L I k ≤ k
  | 0 => Nat.le_refl _
  | k + 1 => by
    have := szTo_le R L I k
    unfold szTo
    split <;> omega

theorem nameOf_le (k : Int) : (nameOf k).size ≤ maxLen := by
  unfold nameOf
  split
  · decide
  split
  · decide
  split
  · decide
  · decide

/-- The world behind the two boxes of a round. -/
theorem round_world {w wr W1 : World} {R L I : Nat → Int} {k : Nat} (h : Inv w R L I k wr) {o1 o2 : Obj} (hW : (wr.alloc o1).alloc o2 = W1) :
    Inv w R L I k W1 ∧ W1.heap[wr.heap.size]? = some o1 ∧ W1.heap[wr.heap.size + 1]? = some o2 := by
  have hb : ∀ i, i < wr.heap.size → W1.heap[i]? = wr.heap[i]? := fun i hi => by
    rw [← hW]; exact (Below.heap_alloc _ _ _ (by simp; omega)).trans (Below.heap_alloc _ _ _ hi)
  have hs := h.siz
  refine ⟨⟨?_, (hb _ (by omega)).trans h.mod, (hb _ (by omega)).trans h.pre, ?_, ?_⟩, ?_, ?_⟩
  · obtain ⟨m, h1, h2⟩ := h.tal
    refine ⟨m, (hb _ (by omega)).trans h1, ?_⟩
    rcases h2 with h2 | ⟨M, e, h3, h4⟩
    · exact Or.inl h2
    · obtain ⟨es, c, h5⟩ := h4.isMapBlock
      exact Or.inr ⟨M, e, h3, h4.of_block (hb M (Array.getElem?_eq_some_iff.1 h5).1)⟩
  · rw [← hW]; exact (h.bel.alloc (by omega) _).alloc (by simp; omega) _
  · rw [← hW]; simp; omega
  · rw [← hW]
    exact (Below.heap_alloc _ _ _ (by simp)).trans (heap_alloc_new' _ _)
  · rw [← hW]
    have := heap_alloc_new' (wr.alloc o1) o2
    simpa using this

theorem sbox_cells {w : World} {b : Nat} {r l d : Int} (h : w.heap[b]? = some (.cells #[.int .u8 r, .int .u64 l, .int .u64 d] 44 (0, 0))) :
    w.cell? ⟨b, 0, none⟩ = some (.int .u8 r) ∧ w.cell? ⟨b, 1, none⟩ = some (.int .u64 l) ∧ w.cell? ⟨b, 2, none⟩ = some (.int .u64 d) := by
  simp [World.cell?, h]

theorem mArr_cells {w : World} {b : Nat} {f : List UInt8 → Option (Int × Int)} (h : w.heap[b]? = some (mArr f)) (j : Nat) (hj : j < 4) :
    w.cell? ⟨b, j * 2, none⟩ = some (exL f j) ∧ w.cell? ⟨b, j * 2 + 1, none⟩ = some (exI f j) ∧ w.frozen? ⟨b, j * 2, none⟩ = false ∧ w.frozen? ⟨b, j * 2 + 1, none⟩ = false := by
  match j, hj with
  | 0, _ | 1, _ | 2, _ | 3, _ => simp [World.cell?, World.frozen?, h, mArr]

theorem pArr_cells {w : World} {b : Nat} {f : List UInt8 → Option (Int × Int)} (h : w.heap[b]? = some (pArr f)) (j : Nat) (hj : j < 4) :
    w.cell? ⟨b, j, none⟩ = some (.bool (f (nm j)).isSome) ∧ w.frozen? ⟨b, j, none⟩ = false := by
  match j, hj with
  | 0, _ | 1, _ | 2, _ | 3, _ => simp [World.cell?, World.frozen?, h, pArr]

/-- Behind 'cover': the other blocks. -/
theorem round_cover {w wr W1 w2 : World} {R L I : Nat → Int} {k : Nat} {m : Option Nat} (h : Inv w R L I k W1) (hm : m = none ∨ ∃ M f sz, m = some M ∧ w.heap.size + 3 ≤ M ∧ Tab W1 M f sz) (hF : Fr (fun i => i = w.heap.size ∨ some i = m) W1.drew w2)
    {c1 c2 : Array Value} {t1 t2 : TypeId} (h3 : w.heap.size + 3 ≤ wr.heap.size) (hs : W1.heap[wr.heap.size]? = some (.cells c1 t1 (0, 0))) (he : W1.heap[wr.heap.size + 1]? = some (.cells c2 t2 (0, 0))) :
    w2.heap[w.heap.size + 1]? = some (mArr (G R L I k)) ∧ w2.heap[w.heap.size + 2]? = some (pArr (G R L I k)) ∧ w2.heap[wr.heap.size]? = some (.cells c1 t1 (0, 0)) ∧ w2.heap[wr.heap.size + 1]? = some (.cells c2 t2 (0, 0)) ∧
      Below w.heap.size w w2 ∧ w.heap.size + 3 ≤ w2.heap.size := by
  have hz := h.siz
  have hnot : ∀ i, w.heap.size < i → (i < w.heap.size + 3 ∨ ∃ c t, W1.heap[i]? = some (.cells c t (0, 0))) → ¬ (i = w.heap.size ∨ some i = m) := by
    rintro i hi h1 (e | e)
    · omega
    · rcases hm with rfl | ⟨M, f, sz, rfl, hM, hT⟩
      · cases e
      · cases e
        rcases h1 with h1 | ⟨c, t, h1⟩
        · omega
        · obtain ⟨es, cl, h2⟩ := hT.isMapBlock
          rw [h1] at h2; cases h2
  have hl1 := lt_of_block hs
  have hl2 := lt_of_block he
  refine ⟨(hF.block _ ?_ (hnot _ (by omega) (by omega))).trans h.mod, (hF.block _ ?_ (hnot _ (by omega) (by omega))).trans h.pre, (hF.block _ hl1 (hnot _ (by omega) (Or.inr ⟨_, _, hs⟩))).trans hs, (hF.block _ hl2 (hnot _ (by omega) (Or.inr ⟨_, _, he⟩))).trans he, ?_, Nat.le_trans hz hF.size⟩
  · show _ < W1.heap.size; omega
  · show _ < W1.heap.size; omega
  · refine h.bel.trans ⟨hF.os, hF.tape, hF.output, hF.size, fun i hi => hF.block i (show _ < W1.heap.size by omega) ?_⟩
    rintro (e | e)
    · omega
    · rcases hm with rfl | ⟨M, f, sz, rfl, hM, hT⟩
      · cases e
      · cases e; omega

theorem nm_inj {i j : Nat} (hi : i < 4) (hj : j < 4) (h : i ≠ j) : nm i ≠ nm j := by
  match i, hi, j, hj with
  | 0, _, 0, _ | 1, _, 1, _ | 2, _, 2, _ | 3, _, 3, _ => exact absurd rfl h
  | 0, _, 1, _ | 0, _, 2, _ | 0, _, 3, _ | 1, _, 0, _ | 1, _, 2, _ | 1, _, 3, _ | 2, _, 0, _ | 2, _, 1, _ | 2, _, 3, _ | 3, _, 0, _ | 3, _, 1, _ | 3, _, 2, _ => decide

theorem put_nm (f : List UInt8 → Option (Int × Int)) (i j : Nat) (hi : i < 4) (hj : j < 4) (p : Int × Int) : put f (nm j) p (nm i) = if i = j then some p else f (nm i) := by
  by_cases e : i = j
  · subst e; simp [put_same]
  · rw [put_other _ _ _ _ (nm_inj hi hj e), if_neg e]

theorem mArr_put {w : World} {b : Nat} {f : List UInt8 → Option (Int × Int)} (h : w.heap[b]? = some (mArr f)) (j : Nat) (hj : j < 4) (p : Int × Int) :
    ((w.setCell ⟨b, j * 2, none⟩ (.int .u64 p.1)).setCell ⟨b, j * 2 + 1, none⟩ (.int .u64 p.2)).heap[b]? = some (mArr (put f (nm j) p)) := by
  rw [setCell_block (setCell_block h _ _) _ _]
  unfold mArr exL exI
  rw [put_nm f 0 j (by omega) hj, put_nm f 1 j (by omega) hj, put_nm f 2 j (by omega) hj, put_nm f 3 j (by omega) hj]
  match j, hj with
  | 0, _ | 1, _ | 2, _ | 3, _ => simp

theorem pArr_put {w : World} {b : Nat} {f : List UInt8 → Option (Int × Int)} (h : w.heap[b]? = some (pArr f)) (j : Nat) (hj : j < 4) (p : Int × Int) :
    (w.setCell ⟨b, j, none⟩ (.bool true)).heap[b]? = some (pArr (put f (nm j) p)) := by
  rw [setCell_block h _ _]
  unfold pArr
  rw [put_nm f 0 j (by omega) hj, put_nm f 1 j (by omega) hj, put_nm f 2 j (by omega) hj, put_nm f 3 j (by omega) hj]
  match j, hj with
  | 0, _ | 1, _ | 2, _ | 3, _ => simp

theorem inv_step {w W1 w2 : World} {R L I : Nat → Int} {k j M : Nat} {m : Option Nat} (hj : R k % 4 = (j : Int)) (hj4 : j < 4) (hm : m = none ∨ ∃ M f sz, m = some M ∧ w.heap.size + 3 ≤ M ∧ Tab W1 M f sz) (h1 : Inv w R L I k W1)
    (K1 : w2.heap[w.heap.size + 1]? = some (mArr (G R L I k))) (K2 : w2.heap[w.heap.size + 2]? = some (pArr (G R L I k))) (K5 : Below w.heap.size w w2) (K6 : w.heap.size + 3 ≤ w2.heap.size)
    (KB : w2.heap[w.heap.size]? = some (tallyO (clockBy (clkTo L k) (L k)) (idsBy (idsTo R L I k) (I k) ((G R L I k (nameOf j).data.toList).getD (0, 0)).2) 0 (some M)))
    (KT : Tab w2 M (put (G R L I k) (nameOf j).data.toList (L k, I k)) (if (G R L I k (nameOf j).data.toList).isSome then szTo R L I k else szTo R L I k + 1)) (KM : some M = m ∨ W1.drew.heap.size ≤ M) :
    Inv w R L I (k + 1) (((w2.setCell ⟨w.heap.size + 1, j * 2, none⟩ (.int .u64 (L k))).setCell ⟨w.heap.size + 1, j * 2 + 1, none⟩ (.int .u64 (I k))).setCell ⟨w.heap.size + 1 + 1, j, none⟩ (.bool true)) := by
  have ho : ∀ i, i ≠ w.heap.size + 1 → i ≠ w.heap.size + 2 → (((w2.setCell ⟨w.heap.size + 1, j * 2, none⟩ (.int .u64 (L k))).setCell ⟨w.heap.size + 1, j * 2 + 1, none⟩ (.int .u64 (I k))).setCell ⟨w.heap.size + 1 + 1, j, none⟩ (.bool true)).heap[i]? = w2.heap[i]? :=
    fun i e1 e2 => (Below.heap_setCell _ _ _ _ e2).trans ((Below.heap_setCell _ _ _ _ e1).trans (Below.heap_setCell _ _ _ _ e1))
  have hM3 : w.heap.size + 3 ≤ M := by
    rcases KM with e | e
    · rcases hm with rfl | ⟨M', f, sz, rfl, h3, _⟩
      · cases e
      · cases e; exact h3
    · exact Nat.le_trans h1.siz e
  refine ⟨⟨some M, ?_, Or.inr ⟨M, rfl, hM3, ?_⟩⟩, ?_, ?_, ?_, ?_⟩
  · rw [ho _ (by omega) (by omega), KB]
    simp only [clkTo, idsTo, hj]
  · have := KT.of_block (ho M (by omega) (by omega))
    simp only [G, szTo, hj]
    exact this
  · rw [Below.heap_setCell _ _ _ _ (show w.heap.size + 1 ≠ w.heap.size + 1 + 1 by omega)]
    have := mArr_put K1 j hj4 (L k, I k)
    simp only [G, hj]
    exact this
  · have e0 : ((w2.setCell ⟨w.heap.size + 1, j * 2, none⟩ (.int .u64 (L k))).setCell ⟨w.heap.size + 1, j * 2 + 1, none⟩ (.int .u64 (I k))).heap[w.heap.size + 1 + 1]? = some (pArr (G R L I k)) :=
      (Below.heap_setCell _ _ _ _ (show w.heap.size + 1 + 1 ≠ w.heap.size + 1 by omega)).trans ((Below.heap_setCell _ _ _ _ (show w.heap.size + 1 + 1 ≠ w.heap.size + 1 by omega)).trans K2)
    have := pArr_put e0 j hj4 (L k, I k)
    simp only [G, hj]
    exact this
  · exact ((K5.setCell (by show w.heap.size ≤ w.heap.size + 1; omega) _).setCell (by show w.heap.size ≤ w.heap.size + 1; omega) _).setCell (by show w.heap.size ≤ w.heap.size + 1 + 1; omega) _
  · simpa [World.setCell] using K6

theorem inv_start (w : World) (R L I : Nat → Int) : Inv w R L I 0 (((w.alloc (.cells #[.int .u64 0, .int .u64 0, .int .u64 0, .map none] 38)).alloc
      (.cells #[.int .u64 0, .int .u64 0, .int .u64 0, .int .u64 0, .int .u64 0, .int .u64 0, .int .u64 0, .int .u64 0] 41)).alloc (.cells #[.bool false, .bool false, .bool false, .bool false] 42)) := by
  refine ⟨⟨none, ?_, Or.inl ⟨rfl, rfl⟩⟩, ?_, ?_, ?_, ?_⟩
  · exact (Below.heap_alloc _ _ _ (by simp; omega)).trans ((Below.heap_alloc _ _ _ (by simp)).trans (heap_alloc_new' _ _))
  · refine (Below.heap_alloc _ _ _ (by simp)).trans ?_
    have := heap_alloc_new' (w.alloc (.cells #[.int .u64 0, .int .u64 0, .int .u64 0, .map none] 38)) (.cells #[.int .u64 0, .int .u64 0, .int .u64 0, .int .u64 0, .int .u64 0, .int .u64 0, .int .u64 0, .int .u64 0] 41)
    rw [World.size_alloc] at this
    exact this
  · have := heap_alloc_new' ((w.alloc (.cells #[.int .u64 0, .int .u64 0, .int .u64 0, .map none] 38)).alloc (.cells #[.int .u64 0, .int .u64 0, .int .u64 0, .int .u64 0, .int .u64 0, .int .u64 0, .int .u64 0, .int .u64 0] 41)) (.cells #[.bool false, .bool false, .bool false, .bool false] 42)
    rw [World.size_alloc, World.size_alloc] at this
    exact this
  · exact (((Below.refl _ _).alloc (Nat.le_refl _) _).alloc (by simp) _).alloc (by simp; omega) _
  · simp

theorem neq40 (a b : Int) (w : World) : (binOp .neq 40 (.agg #[.int .u64 a, .int .u64 b]) (.agg #[.int .u64 a, .int .u64 b])).run Yba.prog w = .ok (.bool false) w := by
  have u3 := Yba.underlying22
  have a3 := Yba.isAgg22
  have z3 := Yba.sizeOf22
  have hS : Yba.prog.underlying 40 = some (.struct (Yba.prog.fieldsOf 40)) := by kernel_rfl
  have hp : Yba.prog.stoodInHeld 40 = false := by kernel_rfl
  rw [run_neq_struct, show (10000 : Nat) = 9999 + 1 from rfl, run_equalIn_agg w 9999 40 _ _ hS hp]
  simp only [Program.fieldsOf, Yba.underlying40]
  go_simp

def sumTo (f : List UInt8 → Option (Int × Int)) : Nat → Int
  | 0 => 0
  | k + 1 => if (f (nm k)).isSome then IntKind.u64.wrap (sumTo f k + ((f (nm k)).getD (0, 0)).2) else sumTo f k
def cntTo (f : List UInt8 → Option (Int × Int)) : Nat → Nat
  | 0 => 0
  | k + 1 => if (f (nm k)).isSome then cntTo f k + 1 else cntTo f k

theorem cntTo_le (f : List UInt8 → Option (Int × Int)) : ∀ k, cntTo f k ≤ k
  | 0 => Nat.le_refl _
  | k + 1 => by
    have := cntTo_le f k
    unfold cntTo
    split <;> omega

theorem got_world {wr W3 : World} {a b : Int} (h : (wr.alloc (.cells #[.int .u64 a, .int .u64 b] 40)).drew = W3) :
    W3.heap[wr.heap.size]? = some (.cells #[.int .u64 a, .int .u64 b] 40 (0, 0)) ∧ (∀ i, i < wr.heap.size → W3.heap[i]? = wr.heap[i]?) ∧ Below wr.heap.size wr W3 := by
  subst h
  exact ⟨heap_alloc_new' _ _, fun i hi => Below.heap_alloc _ _ _ hi, ((Below.refl _ _).alloc (Nat.le_refl _) _).drew⟩

theorem wrap_u64 (x : Int) : IntKind.u64.wrap x = x % 18446744073709551616 := by simp [IntKind.wrap, IntKind.bits, IntKind.signed]

/-- The ids of the four extents. -/
def sumI (f : List UInt8 → Option (Int × Int)) : Int := ((f (nm 0)).getD (0, 0)).2 + ((f (nm 1)).getD (0, 0)).2 + ((f (nm 2)).getD (0, 0)).2 + ((f (nm 3)).getD (0, 0)).2

theorem sumI_put (f : List UInt8 → Option (Int × Int)) (j : Nat) (hj : j < 4) (p : Int × Int) : sumI (put f (nm j) p) = sumI f + p.2 - ((f (nm j)).getD (0, 0)).2 := by
  unfold sumI
  rw [put_nm f 0 j (by omega) hj, put_nm f 1 j (by omega) hj, put_nm f 2 j (by omega) hj, put_nm f 3 j (by omega) hj]
  match j, hj with
  | 0, _ | 1, _ | 2, _ | 3, _ => simp; omega

theorem sumTo_four (f : List UInt8 → Option (Int × Int)) : sumTo f 4 = sumI f % 18446744073709551616 := by
  unfold sumI
  simp only [sumTo, wrap_u64]
  cases h0 : f (nm 0) <;> cases h1 : f (nm 1) <;> cases h2 : f (nm 2) <;> cases h3 : f (nm 3) <;> simp

set_option linter.unusedSimpArgs false in
theorem cntTo_put (f : List UInt8 → Option (Int × Int)) (j : Nat) (hj : j < 4) (p : Int × Int) : cntTo (put f (nm j) p) 4 = if (f (nm j)).isSome then cntTo f 4 else cntTo f 4 + 1 := by
  simp only [cntTo]
  rw [put_nm f 0 j (by omega) hj, put_nm f 1 j (by omega) hj, put_nm f 2 j (by omega) hj, put_nm f 3 j (by omega) hj]
  match j, hj with
  | 0, _ | 1, _ | 2, _ | 3, _ => cases h0 : f (nm 0) <;> cases h1 : f (nm 1) <;> cases h2 : f (nm 2) <;> cases h3 : f (nm 3) <;> simp [h0, h1, h2, h3]

theorem idsTo_eq (R L I : Nat → Int) (hR : ∀ i, 0 ≤ R i) : ∀ k, idsTo R L I k = sumI (G R L I k) % 18446744073709551616 ∧ szTo R L I k = cntTo (G R L I k) 4
  | 0 => ⟨rfl, rfl⟩
  | k + 1 => by
    obtain ⟨h1, h2⟩ := idsTo_eq R L I hR k
    have hk := hR k
    obtain ⟨j, hj⟩ : ∃ j : Nat, R k % 4 = (j : Int) := ⟨(R k % 4).toNat, by omega⟩
    have hj4 : j < 4 := by omega
    have e : (nameOf (R k % 4)).data.toList = nm j := by rw [hj]; rfl
    constructor
    · simp only [idsTo, G, e, idsBy, wrap_u64]
      rw [sumI_put _ j hj4, h1]
      simp only
      omega
    · simp only [szTo, G, e]
      rw [cntTo_put _ j hj4, h2]

end Go.Proofs.Ybulkaswg

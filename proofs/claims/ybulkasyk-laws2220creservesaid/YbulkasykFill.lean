/-
  The table's memory behind a placing; a row that has just been made; the invariant of a loop that places the slots' entries.
-/
import Derived.Test.YbulkasykLeaf
namespace Go.Proofs.Ybulkasyk
open Go.RowKit

theorem cell_set_other {w : World} {a b : Addr} {v u : Value} (hne : b ≠ a) (h : w.cell? a = some v) : (w.setCell b u).cell? a = some v :=
  (World.cell?_setCell_other _ _ _ _ hne).trans h
theorem frozen_set {w : World} {a b : Addr} {u : Value} {f : Bool} (h : w.frozen? a = f) : (w.setCell b u).frozen? a = f :=
  (World.frozen?_setCell _ _ _ _).trans h

theorem TabIs.placed {w : World} {TB EB s p : Nat} {T : Nat → Int} {n e : Int} (h : TabIs w TB EB s T n) (hp : p < s) :
    TabIs ((w.setCell ⟨EB, p, none⟩ (.int .u64 e)).setCell ⟨TB, 1, none⟩ (.int .i64 (n + 1))) TB EB s (upd T p e) (n + 1) := by
  have hne := h.ne
  refine ⟨?_, frozen_set (frozen_set h.hdf), ?_, frozen_set (frozen_set h.nuf), fun i hi => ?_, fun i hi => frozen_set (frozen_set (h.enf i hi)), hne⟩
  · exact cell_set_other (by intro c; injection c with c1 c2; omega) (cell_set_other (by intro c; injection c with c1 c2; omega) h.hdr)
  · exact World.cell?_setCell_same _ _ _ (cell_set_other (by intro c; injection c with c1 c2; omega) h.num)
  · refine cell_set_other (by intro c; injection c with c1 c2; omega) ?_
    by_cases c : i = p
    · subst c
      rw [upd_same]
      exact World.cell?_setCell_same _ _ _ (h.ent i hi)
    · rw [upd_other _ _ _ _ c]
      exact cell_set_other (by intro c'; injection c' with c1 c2; omega) (h.ent i hi)

/-- What a change leaves: w' is w but for the blocks of S, and new ones. -/
structure Fr (S : Nat → Prop) (w w' : World) : Prop where
  os : w'.os = w.os
  tape : w'.tape = w.tape
  output : w'.output = w.output
  size : w.heap.size ≤ w'.heap.size
  block : ∀ k, k < w.heap.size → ¬ S k → w'.heap[k]? = w.heap[k]?

theorem Fr.refl (S : Nat → Prop) (w : World) : Fr S w w := ⟨rfl, rfl, rfl, Nat.le_refl _, fun _ _ _ => rfl⟩
theorem Fr.trans {S : Nat → Prop} {a b c : World} (h : Fr S a b) (k : Fr S b c) : Fr S a c :=
  ⟨k.os.trans h.os, k.tape.trans h.tape, k.output.trans h.output, Nat.le_trans h.size k.size, fun i hi hS => (k.block i (Nat.lt_of_lt_of_le hi h.size) hS).trans (h.block i hi hS)⟩
theorem Fr.set {S : Nat → Prop} {a w : World} (h : Fr S a w) {p : Addr} (hp : S p.block) (u : Value) : Fr S a (w.setCell p u) :=
  ⟨h.os, h.tape, h.output, by simpa [World.setCell] using h.size, fun i hi hS => (Below.heap_setCell _ _ _ _ (fun c => hS (by rw [c]; exact hp))).trans (h.block i hi hS)⟩
theorem Fr.drew {S : Nat → Prop} {a w : World} (h : Fr S a w) : Fr S a w.drew := ⟨h.os, h.tape, h.output, h.size, h.block⟩
theorem Fr.drewN {S : Nat → Prop} {a w : World} (h : Fr S a w) (n : Nat) : Fr S a (w.drewN n) := ⟨h.os, h.tape, h.output, h.size, h.block⟩
theorem Fr.cell {S : Nat → Prop} {w w' : World} (h : Fr S w w') {p : Addr} {v : Value} (hp : ¬ S p.block) (hc : w.cell? p = some v) : w'.cell? p = some v :=
  (World.cell?_of_block (w := w) (h.block p.block (World.block_lt_of_cell? w p hc) hp)).trans hc
theorem Fr.frozen {S : Nat → Prop} {w w' : World} (h : Fr S w w') {p : Addr} {f : Bool} (hlt : p.block < w.heap.size) (hp : ¬ S p.block) (hc : w.frozen? p = f) : w'.frozen? p = f :=
  (World.frozen?_of_block (w := w) (h.block p.block hlt hp)).trans hc
theorem Fr.below {S : Nat → Prop} {w w' : World} (h : Fr S w w') {N : Nat} (hN : N ≤ w.heap.size) (hS : ∀ k, k < N → ¬ S k) : Below N w w' :=
  ⟨h.os, h.tape, h.output, h.size, fun k hk => h.block k (by omega) (hS k hk)⟩
theorem Fr.grown {S : Nat → Prop} {a w w' : World} (h : Fr S a w) (hg : w.grownBy w' none) : Fr S a w' :=
  ⟨hg.os.trans h.os, hg.tape.trans h.tape, hg.output.trans h.output, Nat.le_trans h.size hg.size, fun k hk hS => (hg.block k (Nat.lt_of_lt_of_le hk h.size) (by simp)).trans (h.block k hk hS)⟩

/-- A row of uint64 that has just been made. -/
theorem made_row {w' : World} {base g s : Nat} (h : w'.ownsRow base 26 1 (.slice (some ⟨g, 0, none⟩) s s) s (madeCells (Value.int .u64 0).cells (s * 1)).toList) :
    (∀ i, i < s → w'.cell? ⟨g, i, none⟩ = some (.int .u64 0)) ∧ (∀ i, i < s → w'.frozen? ⟨g, i, none⟩ = false) ∧ g < w'.heap.size := by
  have hlt : g < w'.heap.size := by
    rcases h.2 with ⟨h', _⟩ | ⟨g', cap', cur, h', _, hg, _⟩
    · simp at h'
    · simp only [Value.slice.injEq, Option.some.injEq, Addr.mk.injEq, and_true, true_and] at h'
      obtain ⟨rfl, _⟩ := h'
      exact (Array.getElem?_eq_some_iff.1 hg).1
  refine ⟨fun i hi => ?_, fun i hi => h.frozenAt i, hlt⟩
  rw [h.cellAt i (by omega)]
  simp [madeCells, hi, Value.cells, Nat.mod_one]

/-- The slots' hashes in memory: 8 cells a slot. -/
def SlotsIs (w : World) (SB cnt : Nat) (H : Nat → Nat) : Prop := ∀ i, i < cnt → w.cell? ⟨SB, i * 8, none⟩ = some (.int .u64 ((H i : Nat) : Int))

/-- After i placings. -/
structure Filled (H : Nat → Nat) (f : Int) (TB EB s i : Nat) (w wr : World) : Prop where
  tab : ∃ T, TabIs wr TB EB s T (i : Int) ∧ nz T s = i ∧ ∀ k, k < i → Found T s (H k) (ent (H k) (f + k))
  frm : Fr (fun k => k = TB ∨ k = EB) w wr

theorem Filled.step {H : Nat → Nat} {f : Int} {TB EB s i : Nat} {w wr w2 : World} {T : Nat → Int} (hf : 0 ≤ f ∧ f < 100000) (hH : ∀ k, H k < 18446744073709551616) (his : i < s) (hi : i ≤ 1024) (ht : TabIs wr TB EB s T (i : Int)) (hn : nz T s = i) (hfd : ∀ k, k < i → Found T s (H k) (ent (H k) (f + k)))
    (hfr : Fr (fun k => k = TB ∨ k = EB) w wr) {j : Nat} (hj : j < s) (h0 : T ((H i + j) % s) = 0) (hlt : ∀ k, k < j → T ((H i + k) % s) ≠ 0)
    (hw2 : w2 = (wr.setCell ⟨EB, (H i + j) % s, none⟩ (.int .u64 (ent (H i) (f + i)))).setCell ⟨TB, 1, none⟩ (.int .i64 ((i : Int) + 1))) : Filled H f TB EB s (i + 1) w w2 := by
  have hp : (H i + j) % s < s := Nat.mod_lt _ (by omega)
  have hne : ∀ k, k ≤ i → ent (H k) (f + k) ≠ 0 := fun k hk => ent_ne _ _ (by omega) (by have := hH k; omega) (by omega) (by omega)
  subst hw2
  refine ⟨⟨upd T ((H i + j) % s) (ent (H i) (f + i)), ?_, ?_, fun k hk => ?_⟩, (hfr.set (Or.inr rfl) _).set (Or.inl rfl) _⟩
  · have := ht.placed (e := ent (H i) (f + i)) hp
    rw [show (((i + 1 : Nat) : Int)) = (i : Int) + 1 by omega]
    exact this
  · rw [nz_upd T _ _ h0 (hne i (Nat.le_refl _)) s hp, hn]
  · by_cases c : k = i
    · subst c
      exact Found.placed hj h0 hlt
    · exact (hfd k (by omega)).kept (hne k (by omega)) h0

theorem TabIs.drew {w : World} {TB EB s : Nat} {T : Nat → Int} {n : Int} (h : TabIs w TB EB s T n) : TabIs w.drew TB EB s T n := ⟨h.hdr, h.hdf, h.num, h.nuf, h.ent, h.enf, h.ne⟩

/-- The new table, nothing placed yet. -/
theorem Filled.start {H : Nat → Nat} {f : Int} {TB s : Nat} {a0 : Option Addr} {l0 c0 : Nat} {n0 : Int} {w w1 W2 : World} (hdr : w1.cell? ⟨TB, 0, none⟩ = some (.slice a0 l0 c0)) (hdf : w1.frozen? ⟨TB, 0, none⟩ = false) (num : w1.cell? ⟨TB, 1, none⟩ = some (.int .i64 n0)) (nuf : w1.frozen? ⟨TB, 1, none⟩ = false)
    (hT : TB < w.heap.size) (hown : w1.ownsRow w.heap.size 26 1 (.slice (some ⟨w.heap.size, 0, none⟩) s s) s (madeCells (Value.int .u64 0).cells (s * 1)).toList) (hg : w.grownBy w1 none)
    (hW : (w1.setCell ⟨TB, 0, none⟩ (.slice (some ⟨w.heap.size, 0, none⟩) s s)).setCell ⟨TB, 1, none⟩ (.int .i64 0) = W2) : Filled H f TB w.heap.size s 0 w W2 := by
  obtain ⟨hc, hfz, hlt⟩ := made_row hown
  subst hW
  refine ⟨⟨fun _ => 0, ⟨?_, frozen_set (frozen_set hdf), ?_, frozen_set (frozen_set nuf), fun i hi => ?_, fun i hi => frozen_set (frozen_set (hfz i hi)), by omega⟩, nz_zero s, fun k hk => by omega⟩, ?_⟩
  · exact cell_set_other (by intro c; injection c with c1 c2; omega) (World.cell?_setCell_same _ _ _ hdr)
  · exact World.cell?_setCell_same _ _ _ (cell_set_other (by intro c; injection c with c1 c2; omega) num)
  · exact cell_set_other (by intro c; injection c with c1 c2; omega) (cell_set_other (by intro c; injection c with c1 c2; omega) (hc i hi))
  · exact (((Fr.refl _ w).grown hg).set (Or.inl rfl) _).set (Or.inl rfl) _

theorem wrap_i64_in (x : Int) (h0 : 0 ≤ x) (h1 : x ≤ 9223372036854775807) : IntKind.i64.wrap x = x := by
  simp [IntKind.wrap, IntKind.bits, IntKind.signed]
  omega

end Go.Proofs.Ybulkasyk

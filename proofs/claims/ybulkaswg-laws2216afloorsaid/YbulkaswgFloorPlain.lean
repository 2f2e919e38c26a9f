/-
  LawS2216AFloor: the counters, the scan, the two rows that the law fills: plain facts.
-/
import Derived.Test.YbulkaswgFloor
import Derived.Test.YbulkaswgBuild
import Derived.Laws.Bits64b
import Derived.Laws.OwnMore
namespace Go.Proofs.Ybulkaswg
open Go.RowKit Go.Shelf

/-- The counters: a base, each next one by a byte and one more. -/
def ctr (B0 : Nat) (D : Nat → Nat) : Nat → Nat
  | 0 => B0
  | i + 1 => ctr B0 D i + (D (i + 1) + 1)

theorem ctr_lt (B0 : Nat) (D : Nat → Nat) (i j : Nat) (h : i < j) : ctr B0 D i < ctr B0 D j := by
  induction j with
  | zero => omega
  | succ j ih =>
    have e : ctr B0 D (j + 1) = ctr B0 D j + (D (j + 1) + 1) := rfl
    rcases Nat.lt_or_ge i j with c | c
    · have := ih c
      omega
    · have : i = j := by omega
      subst this
      omega

theorem ctr_le (B0 : Nat) (D : Nat → Nat) (hD : ∀ i, D i ≤ 255) (i : Nat) : ctr B0 D i ≤ B0 + 256 * i := by
  induction i with
  | zero => exact Nat.le_refl _
  | succ i ih =>
    have e : ctr B0 D (i + 1) = ctr B0 D i + (D (i + 1) + 1) := rfl
    have := hD (i + 1)
    omega

/-- None is at or before q, or there is a last one. -/
theorem last_or (C : Nat → Nat) (len q : Nat) : (∀ i, i < len → q < C i) ∨ ∃ m, Last C len q m := by
  induction len with
  | zero => exact .inl fun i h => by omega
  | succ n ih =>
    by_cases h : C n ≤ q
    · exact .inr ⟨n, by omega, h, fun h => by omega⟩
    · rcases ih with h1 | ⟨m, h1, h2, h3⟩
      · refine .inl fun i hi => ?_
        rcases Nat.lt_or_ge i n with c | c
        · exact h1 i c
        · have : i = n := by omega
          rw [this]; omega
      · refine .inr ⟨m, by omega, h2, fun h4 => ?_⟩
        rcases Nat.lt_or_ge (m + 1) n with c | c
        · exact h3 c
        · have : m + 1 = n := by omega
          rw [this]; omega

theorem Last.le_iff {C : Nat → Nat} {len q m : Nat} (hC : ∀ i j, i < j → C i < C j) (h : Last C len q m) (i : Nat) (hi : i < len) : C i ≤ q ↔ i ≤ m := by
  obtain ⟨h1, h2, h3⟩ := h
  constructor
  · intro h4
    rcases Nat.lt_or_ge m i with c | c
    · have h5 := h3 (by omega)
      rcases Nat.lt_or_ge (m + 1) i with d | d
      · have := hC _ _ d
        omega
      · have : i = m + 1 := by omega
        rw [this] at h4
        omega
    · exact c
  · intro h4
    rcases Nat.lt_or_ge i m with c | c
    · have := hC _ _ c
      omega
    · have : i = m := by omega
      rw [this]; exact h2

theorem info22 : (Yba.prog.info? 22).map (fun i => (i.zero, i.size, i.bytes)) = some (some (.int .u64 0), 1, 8) := by kernel_rfl
theorem info29 : (Yba.prog.info? 29).map (fun i => (i.zero, i.size, i.bytes)) = some (some (.agg #[.int .u64 0, .pointer none]), 2, 16) := by kernel_rfl

theorem cell_set_other {w : World} {a b : Addr} {v u : Value} (hne : b ≠ a) (h : w.cell? a = some v) : (w.setCell b u).cell? a = some v :=
  (World.cell?_setCell_other _ _ _ _ hne).trans h
theorem frozen_set {w : World} {a b : Addr} {u : Value} {f : Bool} (h : w.frozen? a = f) : (w.setCell b u).frozen? a = f :=
  (World.frozen?_setCell _ _ _ _).trans h

/-- The rows 'cs' (block CB) and 'starts' (block SB) after k rounds. -/
structure Filling (C : Nat → Nat) (CB SB len k : Nat) (w wr : World) : Prop where
  bel : Below w.heap.size w wr
  clt : CB < wr.heap.size
  slt : SB < wr.heap.size
  ne : CB ≠ SB
  clo : w.heap.size ≤ CB
  slo : w.heap.size ≤ SB
  cs : ∀ i, i < len → ∃ v, wr.cell? ⟨CB, i, none⟩ = some v
  cl : ∀ i, i < k → wr.cell? ⟨CB, i, none⟩ = some (.int .u64 (C i : Int))
  s0 : ∀ i, i < len → ∃ v, wr.cell? ⟨SB, i * 2, none⟩ = some v
  s1 : ∀ i, i < len → wr.cell? ⟨SB, i * 2 + 1, none⟩ = some (.pointer none)
  sl : ∀ i, i < k → wr.cell? ⟨SB, i * 2, none⟩ = some (.int .u64 (C i : Int))
  cf : ∀ i, wr.frozen? ⟨CB, i, none⟩ = false
  sf : ∀ i, wr.frozen? ⟨SB, i, none⟩ = false

theorem made_odd (len i : Nat) (hi : i < len) : (madeCells (Value.agg #[.int .u64 0, .pointer none]).cells (len * 2)).toList[i * 2 + 1]? = some (.pointer none) := by
  have e : (i * 2 + 1) % 2 = 1 := by omega
  have hc : (Value.agg #[.int .u64 0, .pointer none]).cells = #[.int .u64 0, .pointer none] := by kernel_rfl
  rw [hc]
  have hl : i * 2 + 1 < len * 2 := by omega
  simp only [madeCells, Array.toList_map, List.getElem?_map]
  rw [Array.getElem?_toList, Array.getElem?_eq_getElem (by simpa using hl)]
  simp [e]

theorem Filling.start {C : Nat → Nat} {len : Nat} {w w1 w2 : World}
    (h1 : w1.ownsRow w.heap.size 22 1 (.slice (some ⟨w.heap.size, 0, none⟩) len len) len (madeCells (Value.int .u64 0).cells (len * 1)).toList) (g1 : w.grownBy w1 none)
    (h2 : w2.ownsRow w.heap.size 29 2 (.slice (some ⟨w1.heap.size, 0, none⟩) len len) len (madeCells (Value.agg #[.int .u64 0, .pointer none]).cells (len * 2)).toList) (g2 : w1.grownBy w2 none) :
    Filling C w.heap.size w1.heap.size len 0 w w2 := by
  have l1 : w.heap.size < w1.heap.size := by
    rcases h1.2 with ⟨h', _⟩ | ⟨g', cap', cur, h', _, hg, _⟩
    · simp at h'
    · simp only [Value.slice.injEq, Option.some.injEq, Addr.mk.injEq, and_true, true_and] at h'
      obtain ⟨rfl, _⟩ := h'
      exact (Array.getElem?_eq_some_iff.1 hg).1
  have l2 : w1.heap.size < w2.heap.size := by
    rcases h2.2 with ⟨h', _⟩ | ⟨g', cap', cur, h', _, hg, _⟩
    · simp at h'
    · simp only [Value.slice.injEq, Option.some.injEq, Addr.mk.injEq, and_true, true_and] at h'
      obtain ⟨rfl, _⟩ := h'
      exact (Array.getElem?_eq_some_iff.1 hg).1
  have hkc : w2.heap[w.heap.size]? = w1.heap[w.heap.size]? := g2.block _ l1 (by simp)
  refine ⟨((Below.refl _ w).grown g1 (Nat.le_refl _) (fun k e => by cases e)).grown g2 (Nat.le_of_lt l1) (fun k e => by cases e), by omega, l2, by omega, Nat.le_refl _, Nat.le_of_lt l1, fun i hi => ?_, fun i hi => by omega, fun i hi => ?_, fun i hi => ?_, fun i hi => by omega, fun i => ?_, fun i => h2.frozenAt i⟩
  · rw [World.cell?_of_block (w := w1) hkc, h1.cellAt i (by omega)]
    exact ⟨_, List.getElem?_eq_getElem (by simp [madeCells]; omega)⟩
  · rw [h2.cellAt (i * 2) (by omega)]
    exact ⟨_, List.getElem?_eq_getElem (by simp [madeCells]; omega)⟩
  · rw [h2.cellAt (i * 2 + 1) (by omega)]
    exact made_odd len i hi
  · rw [World.frozen?_of_block (w := w1) hkc]
    exact h1.frozenAt i

theorem Filling.step {C : Nat → Nat} {CB SB len k : Nat} {w wr : World} (h : Filling C CB SB len k w wr) (hk : k < len) :
    Filling C CB SB len (k + 1) w (((wr.setCell ⟨CB, k, none⟩ (.int .u64 (C k : Int))).setCell ⟨SB, k * 2, none⟩ (.int .u64 (C k : Int))).setCell ⟨SB, k * 2 + 1, none⟩ (.pointer none)) := by
  have hne := h.ne
  refine ⟨((h.bel.setCell h.clo _).setCell h.slo _).setCell h.slo _, by simpa [World.setCell] using h.clt, by simpa [World.setCell] using h.slt, hne, h.clo, h.slo, fun i hi => ?_, fun i hi => ?_, fun i hi => ?_, fun i hi => ?_, fun i hi => ?_, fun i => frozen_set (frozen_set (frozen_set (h.cf i))), fun i => frozen_set (frozen_set (frozen_set (h.sf i)))⟩
  · obtain ⟨v, hv⟩ := h.cs i hi
    by_cases c : i = k
    · subst c
      exact ⟨_, cell_set_other (by intro c'; injection c' with c1 c2; omega) (cell_set_other (by intro c'; injection c' with c1 c2; omega) (World.cell?_setCell_same _ _ _ hv))⟩
    · exact ⟨v, cell_set_other (by intro c'; injection c' with c1 c2; omega) (cell_set_other (by intro c'; injection c' with c1 c2; omega) (cell_set_other (by intro c'; injection c' with c1 c2; omega) hv))⟩
  · by_cases c : i = k
    · subst c
      obtain ⟨v, hv⟩ := h.cs i hk
      exact cell_set_other (by intro c'; injection c' with c1 c2; omega) (cell_set_other (by intro c'; injection c' with c1 c2; omega) (World.cell?_setCell_same _ _ _ hv))
    · exact cell_set_other (by intro c'; injection c' with c1 c2; omega) (cell_set_other (by intro c'; injection c' with c1 c2; omega) (cell_set_other (by intro c'; injection c' with c1 c2; omega) (h.cl i (by omega))))
  · obtain ⟨v, hv⟩ := h.s0 i hi
    by_cases c : i = k
    · subst c
      exact ⟨_, cell_set_other (by intro c'; injection c' with c1 c2; omega) (World.cell?_setCell_same _ _ _ (cell_set_other (by intro c'; injection c' with c1 c2; omega) hv))⟩
    · exact ⟨v, cell_set_other (by intro c'; injection c' with c1 c2; omega) (cell_set_other (by intro c'; injection c' with c1 c2; omega) (cell_set_other (by intro c'; injection c' with c1 c2; omega) hv))⟩
  · have hv := h.s1 i hi
    by_cases c : i = k
    · subst c
      exact World.cell?_setCell_same _ _ _ (cell_set_other (by intro c'; injection c' with c1 c2; omega) (cell_set_other (by intro c'; injection c' with c1 c2; omega) hv))
    · exact cell_set_other (by intro c'; injection c' with c1 c2; omega) (cell_set_other (by intro c'; injection c' with c1 c2; omega) (cell_set_other (by intro c'; injection c' with c1 c2; omega) hv))
  · by_cases c : i = k
    · subst c
      obtain ⟨v, hv⟩ := h.s0 i hk
      exact cell_set_other (by intro c'; injection c' with c1 c2; omega) (World.cell?_setCell_same _ _ _ (cell_set_other (by intro c'; injection c' with c1 c2; omega) hv))
    · exact cell_set_other (by intro c'; injection c' with c1 c2; omega) (cell_set_other (by intro c'; injection c' with c1 c2; omega) (cell_set_other (by intro c'; injection c' with c1 c2; omega) (h.sl i (by omega))))

/-- newRunStarts, no fence. -/
theorem new6 (C : Nat → Nat) (b len N : Nat) (hl1 : 1 ≤ len) (hlen : len ≤ 1024) (hN : N = (len + 63) / 64) (w : World) (hb : b < w.heap.size)
    (hst : ∀ i, i < len → w.cell? ⟨b, 2 * i, none⟩ = some (.int .u64 ((C i : Nat) : Int)) ∧ w.cell? ⟨b, 2 * i + 1, none⟩ = some (.pointer none)) :
    Calls Yba.prog 6 #[.slice (some ⟨b, 0, none⟩) len len] w fun e W' => ∃ XB NB RB g, e = .returned (.pointer (some ⟨XB, 0, none⟩)) ∧ Below w.heap.size w W' ∧ w.heap.size ≤ XB ∧ Tree C b len N XB NB RB g W' none none :=
  callsIn_wide.1 (new6_in Fence.wide 4 trivial trivial trivial trivial (build11_in Fence.wide 3 trivial trivial trivial trivial rfl (by omega)) rfl (by omega) C b len N hl1 hlen hN w hb hst)

/-- What the loop of queries goes on: cs reads as laid, x is nil (no start) or a tree. -/
structure Ready (C : Nat → Nat) (CB SB len N XB : Nat) (xv : Value) (w wr : World) : Prop where
  bel : Below w.heap.size w wr
  clt : CB < wr.heap.size
  cl : ∀ i, i < len → wr.cell? ⟨CB, i, none⟩ = some (.int .u64 (C i : Int))
  ne : CB ≠ XB
  xlo : w.heap.size ≤ XB
  x : (len = 0 ∧ xv = .pointer none) ∨ (1 ≤ len ∧ xv = .pointer (some ⟨XB, 0, none⟩) ∧ ∃ NB RB g p0 p1, Tree C SB len N XB NB RB g wr p0 p1)

theorem Ready.below {C : Nat → Nat} {CB SB len N XB : Nat} {xv : Value} {w wr W' : World} (h : Ready C CB SB len N XB xv w wr) (hb : Below wr.heap.size wr W') : Ready C CB SB len N XB xv w W' := by
  refine ⟨h.bel.trans (hb.mono h.bel.size), Nat.lt_of_lt_of_le h.clt hb.size, fun i hi => (hb.cell (p := ⟨CB, i, none⟩) h.clt).trans (h.cl i hi), h.ne, h.xlo, ?_⟩
  rcases h.x with h1 | ⟨h1, h2, NB, RB, g, p0, p1, h3⟩
  · exact .inl h1
  · exact .inr ⟨h1, h2, NB, RB, g, p0, p1, h3.grown hb⟩

theorem Ready.floored {C : Nat → Nat} {CB SB len N XB : Nat} {xv : Value} {w wr W' : World} (h : Ready C CB SB len N XB xv w wr) (h1 : 1 ≤ len) (hx : xv = .pointer (some ⟨XB, 0, none⟩)) {NB : Nat → Nat} {RB g : Nat} {p0 p1 : Option Nat} (ht : Tree C SB len N XB NB RB g W' p0 p1) (hg : wr.grownBy W' (some XB)) : Ready C CB SB len N XB xv w W' := by
  have hne := h.ne
  refine ⟨h.bel.grown hg h.bel.size (fun k e => by cases e; exact h.xlo), Nat.lt_of_lt_of_le h.clt hg.size, fun i hi => ?_, hne, h.xlo, .inr ⟨h1, hx, NB, RB, g, p0, p1, ht⟩⟩
  rw [World.cell?_of_block (w := wr) (hg.block CB h.clt (by simpa using hne))]
  exact h.cl i hi

/-- floor where none is at or before q. -/
theorem floor_none {C : Nat → Nat} {CB SB len N XB : Nat} {xv : Value} {w wr : World} (hN : N = (len + 63) / 64) (h : Ready C CB SB len N XB xv w wr) (q : Nat) (hq : ∀ i, i < len → q < C i) :
    Calls Yba.prog 7 #[xv, .int .u64 (q : Int)] wr fun e W' => e = .returned (.tuple #[.agg #[.int .u64 0, .pointer none], .bool false]) ∧ Ready C CB SB len N XB xv w W' := by
  rcases h.x with ⟨h1, rfl⟩ | ⟨h1, h2, NB, RB, g, p0, p1, h3⟩
  · refine (floor_nil q wr).mono ?_
    rintro e W' ⟨rfl, hb⟩
    exact ⟨rfl, h.below hb⟩
  · rw [h2]
    refine (floor_lo (by omega) q (hq 0 (by omega)) h3).mono ?_
    rintro e W' ⟨rfl, p0', p1', hT, hg⟩
    exact ⟨rfl, h2 ▸ h.floored h1 h2 hT hg⟩

/-- floor where m is the last one at or before q. -/
theorem floor_some {C : Nat → Nat} {CB SB len N XB : Nat} {xv : Value} {w wr : World} (hN : N = (len + 63) / 64) (hlen : len ≤ 1024) (hC : ∀ i j, i < j → C i < C j) (h : Ready C CB SB len N XB xv w wr) (q m : Nat) (hm : Last C len q m) :
    Calls Yba.prog 7 #[xv, .int .u64 (q : Int)] wr fun e W' => e = .returned (.tuple #[.agg #[.int .u64 (C m : Int), .pointer none], .bool true]) ∧ Ready C CB SB len N XB xv w W' := by
  rcases h.x with ⟨h1, rfl⟩ | ⟨h1, h2, NB, RB, g, p0, p1, h3⟩
  · exact absurd hm.1 (by omega)
  · rw [h2]
    refine (floor_hi hN hlen (fun i j hij _ => hC i j hij) q m hm h3).mono ?_
    rintro e W' ⟨rfl, p0', p1', hT, hg⟩
    exact ⟨rfl, h2 ▸ h.floored h1 h2 hT hg⟩

theorem base_and (a0 : Int) (h0 : 0 ≤ a0) (h1 : a0 ≤ 18446744073709551615) : ∃ B0 : Nat, bits .and .u64 a0 4611686018427387903 = (B0 : Int) ∧ B0 < 4611686018427387904 := by
  refine ⟨a0.toNat &&& 4611686018427387903, ?_, ?_⟩
  · have := bits_and_u64_nat a0.toNat 4611686018427387903 (by omega) (by omega)
    rw [← this]
    congr 1
    omega
  · exact Nat.lt_of_le_of_lt Nat.and_le_right (by omega)

end Go.Proofs.Ybulkaswg

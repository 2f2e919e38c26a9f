/-
  LawS2216AFloor: the method floor (7) over a tree of starts.
-/
import Derived.Test.YbulkaswgLeafWalk
namespace Go.Proofs.Ybulkaswg
open Go.RowKit Go.Shelf

/-- Index m is the last one whose counter is at or before q. -/
def Last (C : Nat → Nat) (len q m : Nat) : Prop := m < len ∧ C m ≤ q ∧ (m + 1 < len → q < C (m + 1))

theorem Last.hit {C : Nat → Nat} {len N q m : Nat} (hN : N = (len + 63) / 64) (hC : ∀ i j, i < j → j < len → C i < C j) (h : Last C len q m) : Hit C N q (m / 64) := by
  obtain ⟨h1, h2, h3⟩ := h
  refine ⟨by omega, ?_, fun hl => ?_⟩
  · rcases Nat.lt_or_ge (64 * (m / 64)) m with c | c
    · have := hC _ _ c h1
      omega
    · have : 64 * (m / 64) = m := by omega
      rw [this]
      exact h2
  · have h4 := h3 (by omega)
    rcases Nat.lt_or_ge (m + 1) (64 * (m / 64 + 1)) with c | c
    · have := hC _ _ c (by omega)
      omega
    · have : 64 * (m / 64 + 1) = m + 1 := by omega
      rw [this]
      exact h4

theorem found_r {A : Nat → Nat} {n q r j : Nat} {fnd : Bool} (hA : ∀ i j, i < j → j < n → A i < A j) (hr : r < n) (h1 : A r ≤ q) (h2 : r + 1 < n → q < A (r + 1)) (hj : j ≤ n) (hlo : ∀ i, i < j → A i < q) (hhi : ∀ i, j ≤ i → i < n → q ≤ A i) (hf : fnd = true ↔ j < n ∧ A j = q) :
    (fnd = true ∧ j = r) ∨ (fnd = false ∧ j = r + 1) := by
  have hj1 : j ≤ r + 1 := by
    rcases Nat.lt_or_ge (r + 1) j with c | c
    · have := hlo (r + 1) c
      have := h2 (by omega)
      omega
    · exact c
  rcases Nat.lt_or_ge r j with c | c
  · have e : j = r + 1 := by omega
    right
    refine ⟨?_, e⟩
    cases fnd with
    | false => rfl
    | true =>
      obtain ⟨h3, h4⟩ := hf.1 rfl
      have := h2 (by omega)
      rw [e] at h4
      omega
  · left
    have h3 : q ≤ A r := hhi r c hr
    have e : j = r := by
      rcases Nat.lt_or_ge j r with d | d
      · have := hA j r d hr
        have := hhi j (Nat.le_refl _) (by omega)
        omega
      · omega
    exact ⟨hf.2 ⟨by omega, by rw [e]; omega⟩, e⟩

/-- What floor says. -/
def FloorSaid (C : Nat → Nat) (b len N XB : Nat) (NB : Nat → Nat) (RB g : Nat) (c : Nat) (ok : Bool) (W : World) (e : Ending) (W' : World) : Prop :=
  e = .returned (.tuple #[.agg #[.int .u64 (c : Int), .pointer none], .bool ok]) ∧ ∃ p0' p1', Tree C b len N XB NB RB g W' p0' p1' ∧ W.grownBy W' (some XB)

theorem floor_nil (q : Nat) (W : World) : Calls Yba.prog 7 #[.pointer none, .int .u64 (q : Int)] W fun e W' => e = .returned (.tuple #[.agg #[.int .u64 0, .pointer none], .bool false]) ∧ Below W.heap.size W W' := by
  go_enter Yba.func7, Yba.ntmps7
  go_wp2
  exact bodyPost_ret (v := .tuple #[.agg #[.int .u64 0, .pointer none], .bool false]) (by simp [results, Yba.results7, go_sem]) rfl ⟨rfl, (Below.refl _ W).alloc (Nat.le_refl _) _⟩

set_option maxRecDepth 100000 in
set_option maxHeartbeats 1000000 in
theorem floor_lo {C : Nat → Nat} {b len N XB : Nat} {NB : Nat → Nat} {RB g : Nat} {W : World} {p0 p1 : Option Nat} (_hN1 : 1 ≤ N) (q : Nat) (hq : q < C 0) (h : Tree C b len N XB NB RB g W p0 p1) :
    Calls Yba.prog 7 #[.pointer (some ⟨XB, 0, none⟩), .int .u64 (q : Int)] W (FloorSaid C b len N XB NB RB g 0 false W) := by
  have hq' : (q : Int) < (C 0 : Int) := by omega
  obtain ⟨hx0, _⟩ := (h.grown ((Below.refl _ W).alloc (Nat.le_refl _) (.cells #[.int .u64 0, .pointer none] 29))).x
  have hr0 : (W.alloc (.cells #[.int .u64 0, .pointer none] 29)).cell? ⟨RB, 0, none⟩ = some (.int .u64 (C 0 : Int)) := by
    have hT := h.grown ((Below.refl _ W).alloc (Nat.le_refl _) (.cells #[.int .u64 0, .pointer none] 29))
    rcases hT.root with ⟨h1, h2⟩ | ⟨_, h2⟩
    · rw [h2]; exact (hT.node 0 (by omega)).c0
    · exact h2.c0
  go_enter Yba.func7, Yba.ntmps7
  go_wp2
  exact bodyPost_ret (v := .tuple #[.agg #[.int .u64 0, .pointer none], .bool false]) (by simp [results, Yba.results7, go_sem]) rfl ⟨rfl, _, _, h.grown ((Below.refl _ W).alloc (Nat.le_refl _) _), World.grownBy_alloc W _ _⟩

/-- searchStarts over leaf k of the tree, index r of it the answer. -/
theorem search_leaf {C : Nat → Nat} {b len N XB : Nat} {NB : Nat → Nat} {RB g : Nat} {W : World} {p0 p1 : Option Nat} (hC : ∀ i j, i < j → j < len → C i < C j) (q k r n : Nat) (hn : n = min 64 (len - 64 * k)) (hr : r < 64) (hm : Last C len q (64 * k + r)) (h : Tree C b len N XB NB RB g W p0 p1) :
    Calls Yba.prog 14 #[.slice (some ⟨b, 128 * k, none⟩) n n, .int .u64 (q : Int)] W fun e w' => ∃ (j : Nat) (fnd : Bool), ((fnd = true ∧ j = r ∧ C (64 * k + r) = q) ∨ (fnd = false ∧ j = r + 1 ∧ C (64 * k + r) ≠ q)) ∧ e = .returned (.tuple #[.int .i64 (j : Int), .bool fnd]) ∧ Below W.heap.size W w' := by
  obtain ⟨h1, h2, h3⟩ := hm
  refine (search14 b (128 * k) n q (fun i => C (64 * k + i)) W h.bl (by omega) (fun i j hij hj => hC _ _ (by omega) (by omega)) (fun i hi => ?_)).mono ?_
  · have := h.st (64 * k + i) (by omega)
    rw [show 2 * (64 * k + i) = 128 * k + i * 2 by omega] at this
    exact this
  · rintro e w' ⟨j, fnd, k1, k2, k3, k4, rfl, k5⟩
    have hr := found_r (A := fun i => C (64 * k + i)) (r := r) (q := q) (fun i j hij hj => hC _ _ (by omega) (by omega)) (by omega) h2 (fun hl => h3 (by omega)) k1 k2 k3 k4
    refine ⟨j, fnd, ?_, rfl, k5⟩
    rcases hr with ⟨rfl, rfl⟩ | ⟨rfl, rfl⟩
    · exact .inl ⟨rfl, rfl, (k4.1 rfl).2⟩
    · exact .inr ⟨rfl, rfl, fun e => by have := k2 r (by omega); dsimp only at this; omega⟩

theorem search_eq {C : Nat → Nat} {b len N XB : Nat} {NB : Nat → Nat} {RB g : Nat} {W : World} {p0 p1 : Option Nat} (hC : ∀ i j, i < j → j < len → C i < C j) (q k r n : Nat) (hn : n = min 64 (len - 64 * k)) (hr : r < 64) (hm : Last C len q (64 * k + r)) (h : Tree C b len N XB NB RB g W p0 p1) (hq : C (64 * k + r) = q) :
    Calls Yba.prog 14 #[.slice (some ⟨b, 128 * k, none⟩) n n, .int .u64 (q : Int)] W fun e w' => e = .returned (.tuple #[.int .i64 (r : Int), .bool true]) ∧ Below W.heap.size W w' := by
  refine (search_leaf hC q k r n hn hr hm h).mono ?_
  rintro e w' ⟨j, fnd, ⟨rfl, rfl, _⟩ | ⟨_, _, hne⟩, rfl, hb⟩
  · exact ⟨rfl, hb⟩
  · exact absurd hq hne

theorem search_ne {C : Nat → Nat} {b len N XB : Nat} {NB : Nat → Nat} {RB g : Nat} {W : World} {p0 p1 : Option Nat} (hC : ∀ i j, i < j → j < len → C i < C j) (q k r n : Nat) (hn : n = min 64 (len - 64 * k)) (hr : r < 64) (hm : Last C len q (64 * k + r)) (h : Tree C b len N XB NB RB g W p0 p1) (hq : C (64 * k + r) ≠ q) :
    Calls Yba.prog 14 #[.slice (some ⟨b, 128 * k, none⟩) n n, .int .u64 (q : Int)] W fun e w' => e = .returned (.tuple #[.int .i64 ((r : Int) + 1), .bool false]) ∧ Below W.heap.size W w' := by
  refine (search_leaf hC q k r n hn hr hm h).mono ?_
  rintro e w' ⟨j, fnd, ⟨_, _, he⟩ | ⟨rfl, rfl, _⟩, rfl, hb⟩
  · exact absurd he hq
  · exact ⟨rfl, hb⟩

theorem box_kept {W1 W2 W3 : World} {XB B : Nat} {o : Obj} (h1 : W1.heap[B]? = some o) (hne : B ≠ XB) (hg : W1.grownBy W2 (some XB)) (hb : Below W2.heap.size W2 W3) : W3.heap[B]? = some o := by
  have hlt := (Array.getElem?_eq_some_iff.1 h1).1
  rw [hb.block B (Nat.lt_of_lt_of_le hlt hg.size), hg.block B hlt (by simpa using hne)]
  exact h1

/-- The tree behind floor's own stores. -/
theorem floor_end {C : Nat → Nat} {b len N XB : Nat} {NB : Nat → Nat} {RB g : Nat} {W W1 W2 W3 : World} {p0 p1 p0' p1' : Option Nat} {u v : Value} (h : Tree C b len N XB NB RB g W p0 p1) (hB1 : Below W.heap.size W W1) (h2 : Tree C b len N XB NB RB g W2 p0' p1') (hg2 : W1.grownBy W2 (some XB)) (hb3 : Below W2.heap.size W2 W3) :
    Tree C b len N XB NB RB g ((W3.setCell ⟨W.heap.size, 0, none⟩ u).setCell ⟨W.heap.size, 1, none⟩ v) p0' p1' ∧ W.grownBy ((W3.setCell ⟨W.heap.size, 0, none⟩ u).setCell ⟨W.heap.size, 1, none⟩ v) (some XB) := by
  have hXlt : XB < W.heap.size := (Array.getElem?_eq_some_iff.1 h.xs).1
  have s1 := hB1.size
  have s2 := hg2.size
  have s3 := hb3.size
  have hset : ∀ B, B < W.heap.size → ((W3.setCell ⟨W.heap.size, 0, none⟩ u).setCell ⟨W.heap.size, 1, none⟩ v).heap[B]? = W2.heap[B]? := fun B hB => by
    rw [Below.heap_setCell _ _ _ B (by show B ≠ W.heap.size; omega), Below.heap_setCell _ _ _ B (by show B ≠ W.heap.size; omega), hb3.block B (by omega)]
  have hold : ∀ B, B < W.heap.size → B ≠ XB → ((W3.setCell ⟨W.heap.size, 0, none⟩ u).setCell ⟨W.heap.size, 1, none⟩ v).heap[B]? = W.heap[B]? := fun B hB hne => by
    rw [hset B hB, hg2.block B (by omega) (by simpa using hne), hB1.block B hB]
  have hsz : W.heap.size ≤ ((W3.setCell ⟨W.heap.size, 0, none⟩ u).setCell ⟨W.heap.size, 1, none⟩ v).heap.size := by simp; omega
  refine ⟨h.of hsz hold ((hset XB hXlt).trans h2.xs) h2.q0 h2.q1, ⟨?_, ?_, ?_, hsz, fun B hB hne => hold B hB (by simpa using hne)⟩⟩
  · exact (hb3.os.trans hg2.os).trans hB1.os
  · exact (hb3.tape.trans hg2.tape).trans hB1.tape
  · exact (hb3.output.trans hg2.output).trans hB1.output

set_option maxRecDepth 100000 in
set_option maxHeartbeats 1000000 in
theorem floor_hi {C : Nat → Nat} {b len N XB : Nat} {NB : Nat → Nat} {RB g : Nat} {W : World} {p0 p1 : Option Nat} (hN : N = (len + 63) / 64) (hlen : len ≤ 1024) (hC : ∀ i j, i < j → j < len → C i < C j) (q m : Nat) (hm : Last C len q m) (h : Tree C b len N XB NB RB g W p0 p1) :
    Calls Yba.prog 7 #[.pointer (some ⟨XB, 0, none⟩), .int .u64 (q : Int)] W (FloorSaid C b len N XB NB RB g (C m) true W) := by
  have hq0 : C 0 ≤ q := by
    obtain ⟨h1, h2, h3⟩ := hm
    rcases Nat.eq_zero_or_pos m with c | c
    · rw [← c]; exact h2
    · have := hC 0 m c h1
      omega
  have hq : ¬ (q : Int) < (C 0 : Int) := by omega
  have hmlt := hm.1
  obtain ⟨W1, hW1⟩ : ∃ W1, W.alloc (.cells #[.int .u64 0, .pointer none] 29) = W1 := ⟨_, rfl⟩
  have hB1 : Below W.heap.size W W1 := by rw [← hW1]; exact (Below.refl _ W).alloc (Nat.le_refl _) _
  have hT1 := h.grown hB1
  have hbx1 : W1.heap[W.heap.size]? = some (.cells #[.int .u64 0, .pointer none] 29 (0, 0)) := by rw [← hW1]; exact World.alloc_heap_new W _
  have hXlt : XB < W.heap.size := (Array.getElem?_eq_some_iff.1 h.xs).1
  have hx0 := hT1.x.1
  have hr0 : W1.cell? ⟨RB, 0, none⟩ = some (.int .u64 (C 0 : Int)) := by
    rcases hT1.root with ⟨h1, h2⟩ | ⟨_, h2⟩
    · rw [h2]; exact (hT1.node 0 (by omega)).c0
    · exact h2.c0
  have hleaf := leaf13 hN hlen hC q (m / 64) (hm.hit hN hC) hT1
  have hkN : m / 64 < N := by omega
  obtain ⟨k, hk⟩ : ∃ k, m / 64 = k := ⟨_, rfl⟩
  obtain ⟨r, hr⟩ : ∃ r, m % 64 = r := ⟨_, rfl⟩
  have hr64 : r < 64 := by omega
  have hmkr : m = 64 * k + r := by omega
  rw [hk] at hleaf hkN
  clear hk hr
  subst hmkr
  obtain ⟨n, hn⟩ : ∃ n, n = min 64 (len - 64 * k) := ⟨_, rfl⟩
  have hrn : r < n := by omega
  have hn64 : n ≤ 64 := by omega
  have HF : Hid (∀ (W2 W3 : World) p0' p1', Tree C b len N XB NB RB g W2 p0' p1' → W1.grownBy W2 (some XB) → Below W2.heap.size W2 W3 →
      W3.cell? ⟨NB k, 2, none⟩ = some (.slice (some ⟨b, 128 * k, none⟩) n n) ∧ W3.cell? ⟨b, 128 * k + r * 2, none⟩ = some (.int .u64 (C (64 * k + r) : Int)) ∧ W3.cell? ⟨b, 128 * k + r * 2 + 1, none⟩ = some (.pointer none) ∧
      W3.cell? ⟨W.heap.size, 0, none⟩ = some (.int .u64 0) ∧ W3.cell? ⟨W.heap.size, 1, none⟩ = some (.pointer none) ∧ W3.frozen? ⟨W.heap.size, 0, none⟩ = false ∧ W3.frozen? ⟨W.heap.size, 1, none⟩ = false) := by
    intro W2 W3 p0' p1' hT2 hg2 hb3
    have hT3 := hT2.grown hb3
    have hbx3 := box_kept hbx1 (by omega) hg2 hb3
    have hst := hT3.st (64 * k + r) hmlt
    rw [show 2 * (64 * k + r) = 128 * k + r * 2 by omega] at hst
    have hc2 := (hT3.node k hkN).c2
    dsimp only [piece] at hc2
    rw [← hn] at hc2
    refine ⟨hc2, hst.1, hst.2, ?_⟩
    simp [World.cell?, World.frozen?, hbx3]
  have HN := hide hn
  have HS := hide hC
  have HM := hide hm
  have HT := hide h
  have HB1 := hide hB1
  clear hC hm h hT1 hbx1 hB1 hn hN hmlt hXlt
  by_cases hqe : C (64 * k + r) = q
  · have HQ := hide hqe
    clear hqe
    go_enter Yba.func7, Yba.ntmps7
    go_wp2_with (first | (go_at_call 13; refine hleaf.mono ?_; rintro e W2 ⟨rfl, p0', p1', hT2, hg2⟩; have c2 := (HF.out W2 W2 p0' p1' hT2 hg2 (Below.refl _ _)).1; have hsr := search_eq HS.out q k r n HN.out hr64 HM.out hT2 HQ.out; have HT2 := hide hT2; clear hT2) | (go_at_call 14; refine hsr.mono ?_; rintro e W3 ⟨rfl, hb3⟩; obtain ⟨f1, f2, f3, f4, f5, f6, f7⟩ := HF.out W2 W3 p0' p1' HT2.out hg2 hb3))
    have e0 : ((W3.setCell ⟨W.heap.size, 0, none⟩ (.int .u64 (C (64 * k + r) : Int))).setCell ⟨W.heap.size, 1, none⟩ (.pointer none)).cell? ⟨W.heap.size, 0, none⟩ = some (.int .u64 (C (64 * k + r) : Int)) := (World.cell?_setCell_other _ _ _ _ (by simp)).trans (World.cell?_setCell_same _ _ _ f4)
    have e1 : ((W3.setCell ⟨W.heap.size, 0, none⟩ (.int .u64 (C (64 * k + r) : Int))).setCell ⟨W.heap.size, 1, none⟩ (.pointer none)).cell? ⟨W.heap.size, 1, none⟩ = some (.pointer none) := World.cell?_setCell_same _ _ _ ((World.cell?_setCell_other _ _ _ _ (by simp)).trans f5)
    exact bodyPost_ret (v := .tuple #[.agg #[.int .u64 (C (64 * k + r) : Int), .pointer none], .bool true]) (by simp [results, Yba.results7, go_sem, e0, e1]) rfl ⟨rfl, _, _, floor_end HT.out HB1.out HT2.out hg2 hb3⟩
  · have HQ := hide hqe
    clear hqe
    go_enter Yba.func7, Yba.ntmps7
    go_wp2_with (first | (go_at_call 13; refine hleaf.mono ?_; rintro e W2 ⟨rfl, p0', p1', hT2, hg2⟩; have c2 := (HF.out W2 W2 p0' p1' hT2 hg2 (Below.refl _ _)).1; have hsr := search_ne HS.out q k r n HN.out hr64 HM.out hT2 HQ.out; have HT2 := hide hT2; clear hT2) | (go_at_call 14; refine hsr.mono ?_; rintro e W3 ⟨rfl, hb3⟩; obtain ⟨f1, f2, f3, f4, f5, f6, f7⟩ := HF.out W2 W3 p0' p1' HT2.out hg2 hb3))
    have e0 : ((W3.setCell ⟨W.heap.size, 0, none⟩ (.int .u64 (C (64 * k + r) : Int))).setCell ⟨W.heap.size, 1, none⟩ (.pointer none)).cell? ⟨W.heap.size, 0, none⟩ = some (.int .u64 (C (64 * k + r) : Int)) := (World.cell?_setCell_other _ _ _ _ (by simp)).trans (World.cell?_setCell_same _ _ _ f4)
    have e1 : ((W3.setCell ⟨W.heap.size, 0, none⟩ (.int .u64 (C (64 * k + r) : Int))).setCell ⟨W.heap.size, 1, none⟩ (.pointer none)).cell? ⟨W.heap.size, 1, none⟩ = some (.pointer none) := World.cell?_setCell_same _ _ _ ((World.cell?_setCell_other _ _ _ _ (by simp)).trans f5)
    exact bodyPost_ret (v := .tuple #[.agg #[.int .u64 (C (64 * k + r) : Int), .pointer none], .bool true]) (by simp [results, Yba.results7, go_sem, e0, e1]) rfl ⟨rfl, _, _, floor_end HT.out HB1.out HT2.out hg2 hb3⟩

end Go.Proofs.Ybulkaswg

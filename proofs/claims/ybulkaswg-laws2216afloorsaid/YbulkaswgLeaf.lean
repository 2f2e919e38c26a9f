/-
  LawS2216AFloor: the method leaf (13) over a tree of starts.
-/
import Derived.Test.YbulkaswgFind
import Derived.Test.YbulkaswgTakes
import Derived.LoopN
namespace Go.Proofs.Ybulkaswg
open Go.RowKit Go.Shelf

theorem hide {p : Prop} (h : p) : Hid p := h

/-- Leaf k is the one that takes q. -/
def Hit (C : Nat → Nat) (N q k : Nat) : Prop := k < N ∧ C (64 * k) ≤ q ∧ (k + 1 < N → q < C (64 * (k + 1)))

theorem child20k (B g n q k : Nat) (A NB : Nat → Nat) (w : World) (hn : n ≤ 16) (hA : ∀ i j, i < j → j < n → A i < A j) (hk : k < n) (h1 : A k ≤ q) (h2 : k + 1 < n → q < A (k + 1)) (hr : w.cell? ⟨B, 1, none⟩ = some (.slice (some ⟨g, 0, none⟩) n n)) (hkid : ∀ i, i < n → w.cell? ⟨g, i, none⟩ = some (.pointer (some ⟨NB i, 0, none⟩))) (hc : ∀ i, i < n → w.cell? ⟨NB i, 0, none⟩ = some (.int .u64 (A i : Int))) :
    Calls Yba.prog 20 #[.pointer (some ⟨B, 0, none⟩), .int .u64 (q : Int)] w fun e w' => e = .returned (.int .i64 (k : Int)) ∧ w' = w := by
  have h0 : A 0 ≤ q := by
    rcases Nat.eq_zero_or_pos k with h | h
    · rw [← h]; exact h1
    · have := hA 0 k h hk
      omega
  refine (child20 B g n q A NB w (by omega) hn hA h0 hr hkid hc).mono ?_
  rintro e w' ⟨j, hj, hj1, hj2, rfl, rfl⟩
  have : j = k := by
    rcases Nat.lt_trichotomy j k with h | h | h
    · have := hj2 k h hk
      omega
    · exact h
    · have h3 := h2 (by omega)
      rcases Nat.lt_or_ge (k + 1) j with h4 | h4
      · have := hA (k + 1) j h4 hj
        omega
      · have : j = k + 1 := by omega
        rw [this] at hj1
        omega
  rw [this]
  exact ⟨rfl, rfl⟩

theorem Tree.ne {C : Nat → Nat} {b len N XB : Nat} {NB : Nat → Nat} {RB g : Nat} {W : World} {p0 p1 : Option Nat} (h : Tree C b len N XB NB RB g W p0 p1) {i : Nat} (hi : i < N) : NB i ≠ XB := by
  intro e
  have h1 := h.node i hi
  rw [e] at h1
  have h2 := h.xs.symm.trans h1
  simp at h2

theorem Tree.rne {C : Nat → Nat} {b len N XB : Nat} {NB : Nat → Nat} {RB g : Nat} {W : World} {p0 p1 : Option Nat} (h : Tree C b len N XB NB RB g W p0 p1) : RB ≠ XB := by
  rcases h.root with ⟨_, h2⟩ | ⟨_, h2⟩
  · rw [h2]; exact h.ne (by omega)
  · intro e
    rw [e] at h2
    have h3 := h.xs.symm.trans h2
    simp at h3

/-- The tree in a world that has its blocks, the remembered leaves but. -/
theorem Tree.of {C : Nat → Nat} {b len N XB : Nat} {NB : Nat → Nat} {RB g : Nat} {W W' : World} {p0 p1 p0' p1' : Option Nat} (h : Tree C b len N XB NB RB g W p0 p1) (hs : W.heap.size ≤ W'.heap.size) (hb : ∀ B, B < W.heap.size → B ≠ XB → W'.heap[B]? = W.heap[B]?)
    (hx : W'.heap[XB]? = some (.cells #[.pointer (some ⟨RB, 0, none⟩), .pointer (p0'.map fun i => ⟨NB i, 0, none⟩), .pointer (p1'.map fun i => ⟨NB i, 0, none⟩)] 68 (0, 0))) (h0 : ∀ i, p0' = some i → i < N) (h1 : ∀ i, p1' = some i → i < N) : Tree C b len N XB NB RB g W' p0' p1' := by
  refine ⟨hx, fun i hi => (h.node i hi).of_block (hb _ (h.node i hi).lt (h.ne hi)), ?_, fun i hi => ?_, h.gx, Nat.lt_of_lt_of_le h.gl hs, h.bx, Nat.lt_of_lt_of_le h.bl hs, fun i hi => ?_, h0, h1⟩
  · rcases h.root with h2 | ⟨h2, h3⟩
    · exact .inl h2
    · exact .inr ⟨h2, (hb _ h3.lt h.rne).trans h3⟩
  · rw [World.cell?_of_block (hb g h.gl h.gx)]
    exact h.kid i hi
  · have e : ∀ k, W'.cell? ⟨b, k, none⟩ = W.cell? ⟨b, k, none⟩ := fun k => World.cell?_of_block (hb b h.bl h.bx)
    rw [e, e]
    exact h.st i hi

theorem Tree.grown {C : Nat → Nat} {b len N XB : Nat} {NB : Nat → Nat} {RB g : Nat} {W W' : World} {p0 p1 : Option Nat} (h : Tree C b len N XB NB RB g W p0 p1) (hb : Below W.heap.size W W') : Tree C b len N XB NB RB g W' p0 p1 :=
  h.of hb.size (fun B hB _ => hb.block B hB) ((hb.block _ (Array.getElem?_eq_some_iff.1 h.xs).1).trans h.xs) h.q0 h.q1

theorem tree_set {W : World} {XB : Nat} {a b c d e : Value} (h : W.heap[XB]? = some (.cells #[a, b, c] 68 (0, 0))) :
    ((W.setCell ⟨XB, 2, none⟩ d).setCell ⟨XB, 1, none⟩ e).heap[XB]? = some (.cells #[a, e, d] 68 (0, 0)) ∧ W.grownBy ((W.setCell ⟨XB, 2, none⟩ d).setCell ⟨XB, 1, none⟩ e) (some XB) := by
  obtain ⟨hlt, hk⟩ := Array.getElem?_eq_some_iff.1 h
  have h2 : (W.setCell ⟨XB, 2, none⟩ d).heap[XB]? = some (.cells #[a, b, d] 68 (0, 0)) := by
    show (W.heap.modify XB _)[XB]? = _
    rw [Array.getElem?_eq_getElem (by rw [Array.size_modify]; exact hlt), Array.getElem_modify_self, hk]
    rfl
  obtain ⟨hlt2, hk2⟩ := Array.getElem?_eq_some_iff.1 h2
  refine ⟨?_, ⟨rfl, rfl, rfl, by simp, fun B hB hne => ?_⟩⟩
  · show ((W.setCell ⟨XB, 2, none⟩ d).heap.modify XB _)[XB]? = _
    rw [Array.getElem?_eq_getElem (by rw [Array.size_modify]; exact hlt2), Array.getElem_modify_self, hk2]
    rfl
  · have hne' : B ≠ XB := fun e => hne (by rw [e])
    rw [Below.heap_setCell _ _ _ B hne', Below.heap_setCell _ _ _ B hne']

theorem Tree.x {C : Nat → Nat} {b len N XB : Nat} {NB : Nat → Nat} {RB g : Nat} {W : World} {p0 p1 : Option Nat} (h : Tree C b len N XB NB RB g W p0 p1) :
    W.cell? ⟨XB, 0, none⟩ = some (.pointer (some ⟨RB, 0, none⟩)) ∧ W.cell? ⟨XB, 1, none⟩ = some (.pointer (p0.map fun i => ⟨NB i, 0, none⟩)) ∧ W.cell? ⟨XB, 2, none⟩ = some (.pointer (p1.map fun i => ⟨NB i, 0, none⟩)) ∧ W.frozen? ⟨XB, 1, none⟩ = false ∧ W.frozen? ⟨XB, 2, none⟩ = false := by
  simp [World.cell?, World.frozen?, h.xs]

theorem Tree.back {C : Nat → Nat} {b len N XB : Nat} {NB : Nat → Nat} {RB g : Nat} {W : World} {p0 p1 : Option Nat} (h : Tree C b len N XB NB RB g W p0 p1) (p : Option Nat) (hp : ∀ i, p = some i → i < N) :
    (convert 63 57 (.pointer (p.map fun i => ⟨NB i, 0, none⟩))).run Yba.prog W = .ok (.pointer (p.map fun i => ⟨NB i, 0, none⟩)) W := by
  rcases p with _ | i
  · exact back_none W
  · exact back_some (h.node i (hp i rfl)) rfl

theorem Tree.to {C : Nat → Nat} {b len N XB : Nat} {NB : Nat → Nat} {RB g : Nat} {W : World} {p0 p1 : Option Nat} (h : Tree C b len N XB NB RB g W p0 p1) (p : Option Nat) (hp : ∀ i, p = some i → i < N) :
    (convert 57 63 (.pointer (p.map fun i => ⟨NB i, 0, none⟩))).run Yba.prog W = .ok (.pointer (p.map fun i => ⟨NB i, 0, none⟩)) W := by
  rcases p with _ | i
  · exact to_none W
  · exact to_some (h.node i (hp i rfl)).c0

/-- Does the remembered leaf p take q? -/
def takesB (C : Nat → Nat) (N q : Nat) : Option Nat → Bool
  | none => false
  | some i => decide (C (64 * i) ≤ q ∧ (i + 1 < N → q < C (64 * (i + 1))))

theorem takes_tree {C : Nat → Nat} {b len N XB : Nat} {NB : Nat → Nat} {RB g : Nat} {W : World} {p0 p1 : Option Nat} (hN : N = (len + 63) / 64) (h : Tree C b len N XB NB RB g W p0 p1) (q : Nat) (p : Option Nat) (hp : ∀ i, p = some i → i < N) :
    Calls Yba.prog 19 #[.pointer (p.map fun i => ⟨NB i, 0, none⟩), .int .u64 (q : Int)] W fun e w' => e = .returned (.bool (takesB C N q p)) ∧ w' = W := by
  rcases p with _ | i
  · exact takes_nil q W
  · have hi := hp i rfl
    have hn := h.node i hi
    have h2 := hn.c2
    have hs : W.cell? ⟨b, 128 * i, none⟩ = some (.int .u64 ((C (64 * i) : Nat) : Int)) := by
      have := (h.st (64 * i) (by omega)).1
      rwa [show 2 * (64 * i) = 128 * i by omega] at this
    by_cases hl : i + 1 < N
    · have h3 := hn.c3
      rw [if_pos hl] at h3
      refine (takes_mid (NB i) b (128 * i) (min 64 (len - 64 * i)) (C (64 * i)) q (NB (i + 1)) (C (64 * (i + 1))) W (by omega) h2 h3 hs (h.node (i + 1) hl).c0).mono ?_
      rintro e w' ⟨rfl, rfl⟩
      refine ⟨?_, rfl⟩
      simp [takesB, hl]
    · have h3 := hn.c3
      rw [if_neg hl] at h3
      refine (takes_last (NB i) b (128 * i) (min 64 (len - 64 * i)) (C (64 * i)) q W (by omega) h2 h3 hs).mono ?_
      rintro e w' ⟨rfl, rfl⟩
      refine ⟨?_, rfl⟩
      simp [takesB, hl]

theorem takesB_hit {C : Nat → Nat} {N q k : Nat} {p : Option Nat} (hC : ∀ i j, i < j → j < N → C (64 * i) < C (64 * j)) (hk : Hit C N q k) (hp : ∀ i, p = some i → i < N) (h : takesB C N q p = true) : p = some k := by
  rcases p with _ | i
  · cases h
  · obtain ⟨h1, h2⟩ := of_decide_eq_true h
    have hi := hp i rfl
    obtain ⟨k1, k2, k3⟩ := hk
    congr 1
    rcases Nat.lt_trichotomy i k with c | c | c
    · have := h2 (by omega)
      rcases Nat.lt_or_ge (i + 1) k with d | d
      · have := hC (i + 1) k d k1
        omega
      · have : i + 1 = k := by omega
        rw [this] at h2
        omega
    · exact c
    · have := k3 (by omega)
      rcases Nat.lt_or_ge (k + 1) i with d | d
      · have := hC (k + 1) i d hi
        omega
      · have : k + 1 = i := by omega
        rw [this] at k3
        omega

end Go.Proofs.Ybulkaswg

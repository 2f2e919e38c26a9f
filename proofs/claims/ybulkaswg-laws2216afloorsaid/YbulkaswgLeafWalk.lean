/-
  LawS2216AFloor: the method leaf (13), walked.
-/
import Derived.Test.YbulkaswgLeaf
namespace Go.Proofs.Ybulkaswg
open Go.RowKit Go.Shelf

set_option maxRecDepth 100000 in
set_option maxHeartbeats 1000000 in
theorem leaf_a (XB q : Nat) (P0 : Option Addr) (W : World) (hx1 : W.cell? ⟨XB, 1, none⟩ = some (.pointer P0)) (hb0 : (convert 63 57 (.pointer P0)).run Yba.prog W = .ok (.pointer P0) W)
    (ht0 : Calls Yba.prog 19 #[.pointer P0, .int .u64 (q : Int)] W fun e w' => e = .returned (.bool true) ∧ w' = W) :
    Calls Yba.prog 13 #[.pointer (some ⟨XB, 0, none⟩), .int .u64 (q : Int)] W fun e w' => e = .returned (.pointer P0) ∧ w' = W := by
  have h18 := load18 XB 1 P0 W hx1 hb0
  go_enter Yba.func13, Yba.ntmps13
  go_wp2_with (first | (go_at_call 18; refine h18.mono ?_; rintro e w' ⟨rfl, rfl⟩) | (go_at_call 19; refine ht0.mono ?_; rintro e w' ⟨rfl, rfl⟩))
  go_ret
  exact ⟨rfl, rfl⟩

set_option maxRecDepth 100000 in
set_option maxHeartbeats 1000000 in
theorem leaf_b (XB q : Nat) (P0 P1 : Option Addr) (W : World) (hx1 : W.cell? ⟨XB, 1, none⟩ = some (.pointer P0)) (hx2 : W.cell? ⟨XB, 2, none⟩ = some (.pointer P1)) (hf1 : W.frozen? ⟨XB, 1, none⟩ = false) (hf2 : W.frozen? ⟨XB, 2, none⟩ = false)
    (hb0 : (convert 63 57 (.pointer P0)).run Yba.prog W = .ok (.pointer P0) W) (hb1 : (convert 63 57 (.pointer P1)).run Yba.prog W = .ok (.pointer P1) W)
    (ht0 : Calls Yba.prog 19 #[.pointer P0, .int .u64 (q : Int)] W fun e w' => e = .returned (.bool false) ∧ w' = W)
    (ht1 : Calls Yba.prog 19 #[.pointer P1, .int .u64 (q : Int)] W fun e w' => e = .returned (.bool true) ∧ w' = W)
    (hto0 : (convert 57 63 (.pointer P0)).run Yba.prog W = .ok (.pointer P0) W) (hto1 : (convert 57 63 (.pointer P1)).run Yba.prog (W.setCell ⟨XB, 2, none⟩ (.pointer P0)) = .ok (.pointer P1) (W.setCell ⟨XB, 2, none⟩ (.pointer P0))) :
    Calls Yba.prog 13 #[.pointer (some ⟨XB, 0, none⟩), .int .u64 (q : Int)] W fun e w' => e = .returned (.pointer P1) ∧ w' = (W.setCell ⟨XB, 2, none⟩ (.pointer P0)).setCell ⟨XB, 1, none⟩ (.pointer P1) := by
  have h18 := load18 XB 1 P0 W hx1 hb0
  have h18' := load18 XB 2 P1 W hx2 hb1
  have h21 := store21 XB 2 P0 _ W hx2 hf2 hto0
  have hx1' : (W.setCell ⟨XB, 2, none⟩ (.pointer P0)).cell? ⟨XB, 1, none⟩ = some (.pointer P0) := (World.cell?_setCell_other _ _ _ _ (by simp)).trans hx1
  have hf1' : (W.setCell ⟨XB, 2, none⟩ (.pointer P0)).frozen? ⟨XB, 1, none⟩ = false := (World.frozen?_setCell _ _ _ _).trans hf1
  have h21' := store21 XB 1 P1 _ (W.setCell ⟨XB, 2, none⟩ (.pointer P0)) hx1' hf1' hto1
  obtain ⟨W1, hW1⟩ : ∃ W1, W.setCell ⟨XB, 2, none⟩ (.pointer P0) = W1 := ⟨_, rfl⟩
  rw [hW1] at h21' h21
  clear hb0 hb1 hto0 hto1 hx1' hf1'
  go_enter Yba.func13, Yba.ntmps13
  go_wp2_with (first | (go_at_call 18; (first | with_reducible refine h18.mono ?_ | with_reducible refine h18'.mono ?_); rintro e w' ⟨rfl, rfl⟩) | (go_at_call 19; (first | with_reducible refine ht0.mono ?_ | with_reducible refine ht1.mono ?_); rintro e w' ⟨rfl, rfl⟩) | (go_at_call 21; (first | with_reducible refine h21.mono ?_ | with_reducible refine h21'.mono ?_); rintro e w' ⟨rfl, rfl⟩))
  go_ret
  exact ⟨rfl, by rw [hW1]⟩

set_option maxRecDepth 100000 in
set_option maxHeartbeats 1000000 in
theorem leaf_c (XB RB q : Nat) (P0 P1 : Option Addr) (W : World) (hx0 : W.cell? ⟨XB, 0, none⟩ = some (.pointer (some ⟨RB, 0, none⟩))) (hx1 : W.cell? ⟨XB, 1, none⟩ = some (.pointer P0)) (hx2 : W.cell? ⟨XB, 2, none⟩ = some (.pointer P1)) (hf1 : W.frozen? ⟨XB, 1, none⟩ = false) (hf2 : W.frozen? ⟨XB, 2, none⟩ = false)
    (hb0 : (convert 63 57 (.pointer P0)).run Yba.prog W = .ok (.pointer P0) W) (hb1 : (convert 63 57 (.pointer P1)).run Yba.prog W = .ok (.pointer P1) W)
    (ht0 : Calls Yba.prog 19 #[.pointer P0, .int .u64 (q : Int)] W fun e w' => e = .returned (.bool false) ∧ w' = W)
    (ht1 : Calls Yba.prog 19 #[.pointer P1, .int .u64 (q : Int)] W fun e w' => e = .returned (.bool false) ∧ w' = W)
    (hr1 : W.cell? ⟨RB, 1, none⟩ = some (.slice none 0 0))
    (hto0 : (convert 57 63 (.pointer P0)).run Yba.prog W = .ok (.pointer P0) W) (hto1 : (convert 57 63 (.pointer (some ⟨RB, 0, none⟩))).run Yba.prog (W.setCell ⟨XB, 2, none⟩ (.pointer P0)) = .ok (.pointer (some ⟨RB, 0, none⟩)) (W.setCell ⟨XB, 2, none⟩ (.pointer P0))) :
    Calls Yba.prog 13 #[.pointer (some ⟨XB, 0, none⟩), .int .u64 (q : Int)] W fun e w' => e = .returned (.pointer (some ⟨RB, 0, none⟩)) ∧ w' = (W.setCell ⟨XB, 2, none⟩ (.pointer P0)).setCell ⟨XB, 1, none⟩ (.pointer (some ⟨RB, 0, none⟩)) := by
  have h18 := load18 XB 1 P0 W hx1 hb0
  have h18' := load18 XB 2 P1 W hx2 hb1
  have h21 := store21 XB 2 P0 _ W hx2 hf2 hto0
  have hx1' : (W.setCell ⟨XB, 2, none⟩ (.pointer P0)).cell? ⟨XB, 1, none⟩ = some (.pointer P0) := (World.cell?_setCell_other _ _ _ _ (by simp)).trans hx1
  have hf1' : (W.setCell ⟨XB, 2, none⟩ (.pointer P0)).frozen? ⟨XB, 1, none⟩ = false := (World.frozen?_setCell _ _ _ _).trans hf1
  have h21' := store21 XB 1 (some ⟨RB, 0, none⟩) _ (W.setCell ⟨XB, 2, none⟩ (.pointer P0)) hx1' hf1' hto1
  obtain ⟨W1, hW1⟩ : ∃ W1, W.setCell ⟨XB, 2, none⟩ (.pointer P0) = W1 := ⟨_, rfl⟩
  rw [hW1] at h21' h21
  clear hb0 hb1 hto0 hto1 hx1' hf1'
  go_enter Yba.func13, Yba.ntmps13
  go_wp2_with (first | (go_at_call 18; (first | with_reducible refine h18.mono ?_ | with_reducible refine h18'.mono ?_); rintro e w' ⟨rfl, rfl⟩) | (go_at_call 19; (first | with_reducible refine ht0.mono ?_ | with_reducible refine ht1.mono ?_); rintro e w' ⟨rfl, rfl⟩) | (go_at_call 21; (first | with_reducible refine h21.mono ?_ | with_reducible refine h21'.mono ?_); rintro e w' ⟨rfl, rfl⟩))
  refine wp_loop_rounds 1 ?_
  rw [rounds_succ]
  go_wp2_with (first | (go_at_call 18; (first | with_reducible refine h18.mono ?_ | with_reducible refine h18'.mono ?_); rintro e w' ⟨rfl, rfl⟩) | (go_at_call 19; (first | with_reducible refine ht0.mono ?_ | with_reducible refine ht1.mono ?_); rintro e w' ⟨rfl, rfl⟩) | (go_at_call 21; (first | with_reducible refine h21.mono ?_ | with_reducible refine h21'.mono ?_); rintro e w' ⟨rfl, rfl⟩))
  go_ret
  exact ⟨rfl, by rw [hW1]⟩

set_option maxRecDepth 100000 in
set_option maxHeartbeats 1000000 in
theorem leaf_d (XB RB g N K k q : Nat) (P0 P1 : Option Addr) (W : World) (hk : k < N) (_hN : N ≤ 16) (hx0 : W.cell? ⟨XB, 0, none⟩ = some (.pointer (some ⟨RB, 0, none⟩))) (hx1 : W.cell? ⟨XB, 1, none⟩ = some (.pointer P0)) (hx2 : W.cell? ⟨XB, 2, none⟩ = some (.pointer P1)) (hf1 : W.frozen? ⟨XB, 1, none⟩ = false) (hf2 : W.frozen? ⟨XB, 2, none⟩ = false)
    (hb0 : (convert 63 57 (.pointer P0)).run Yba.prog W = .ok (.pointer P0) W) (hb1 : (convert 63 57 (.pointer P1)).run Yba.prog W = .ok (.pointer P1) W)
    (ht0 : Calls Yba.prog 19 #[.pointer P0, .int .u64 (q : Int)] W fun e w' => e = .returned (.bool false) ∧ w' = W)
    (ht1 : Calls Yba.prog 19 #[.pointer P1, .int .u64 (q : Int)] W fun e w' => e = .returned (.bool false) ∧ w' = W)
    (hr1 : W.cell? ⟨RB, 1, none⟩ = some (.slice (some ⟨g, 0, none⟩) N N)) (hgk : W.cell? ⟨g, k, none⟩ = some (.pointer (some ⟨K, 0, none⟩))) (hK : W.cell? ⟨K, 1, none⟩ = some (.slice none 0 0))
    (hch : ∀ n, Calls Yba.prog 20 #[.pointer (some ⟨RB, 0, none⟩), .int .u64 (q : Int)] (W.drewN n) fun e w' => e = .returned (.int .i64 (k : Int)) ∧ w' = W.drewN n)
    (hto0 : ∀ n, (convert 57 63 (.pointer P0)).run Yba.prog (W.drewN n) = .ok (.pointer P0) (W.drewN n)) (hto1 : ∀ n, (convert 57 63 (.pointer (some ⟨K, 0, none⟩))).run Yba.prog ((W.drewN n).setCell ⟨XB, 2, none⟩ (.pointer P0)) = .ok (.pointer (some ⟨K, 0, none⟩)) ((W.drewN n).setCell ⟨XB, 2, none⟩ (.pointer P0))) :
    Calls Yba.prog 13 #[.pointer (some ⟨XB, 0, none⟩), .int .u64 (q : Int)] W fun e w' => e = .returned (.pointer (some ⟨K, 0, none⟩)) ∧ ∃ n, w' = ((W.drewN n).setCell ⟨XB, 2, none⟩ (.pointer P0)).setCell ⟨XB, 1, none⟩ (.pointer (some ⟨K, 0, none⟩)) := by
  have h18 := load18 XB 1 P0 W hx1 hb0
  have h18' := load18 XB 2 P1 W hx2 hb1
  have h21 : ∀ n, Calls Yba.prog 21 #[.pointer (some ⟨XB, 2, none⟩), .pointer P0] (W.drewN n) fun e w' => e = .returned (.tuple #[]) ∧ w' = (W.drewN n).setCell ⟨XB, 2, none⟩ (.pointer P0) := fun n => store21 XB 2 P0 (.pointer P1) (W.drewN n) hx2 hf2 (hto0 n)
  have h21' : ∀ n, Calls Yba.prog 21 #[.pointer (some ⟨XB, 1, none⟩), .pointer (some ⟨K, 0, none⟩)] ((W.drewN n).setCell ⟨XB, 2, none⟩ (.pointer P0)) fun e w' => e = .returned (.tuple #[]) ∧ w' = ((W.drewN n).setCell ⟨XB, 2, none⟩ (.pointer P0)).setCell ⟨XB, 1, none⟩ (.pointer (some ⟨K, 0, none⟩)) := fun n =>
    store21 XB 1 (some ⟨K, 0, none⟩) (.pointer P0) ((W.drewN n).setCell ⟨XB, 2, none⟩ (.pointer P0)) ((World.cell?_setCell_other _ _ _ _ (by simp)).trans hx1) ((World.frozen?_setCell _ _ _ _).trans hf1) (hto1 n)
  clear hb0 hb1 hto0 hto1
  go_enter Yba.func13, Yba.ntmps13
  go_wp2_with (first | (go_at_call 18; (first | with_reducible refine h18.mono ?_ | with_reducible refine h18'.mono ?_); rintro e w' ⟨rfl, rfl⟩) | (go_at_call 19; (first | with_reducible refine ht0.mono ?_ | with_reducible refine ht1.mono ?_); rintro e w' ⟨rfl, rfl⟩))
  refine wp_loop_rounds 2 ?_
  rw [rounds_succ]
  go_wp2_with fail
  go_quiet (first | (go_at_call 20; exact Calls.quiet_of_same (hch _)))
  have a1 := h21 nq
  have a2 := h21' nq
  have hKn : (w'.drewN nq).cell? ⟨K, 1, none⟩ = some (.slice none 0 0) := hK
  obtain ⟨V, hV⟩ : ∃ V, w'.drewN nq = V := ⟨_, rfl⟩
  rw [hV] at a1 a2 hKn ⊢
  obtain ⟨V1, hV1⟩ : ∃ V1, V.setCell ⟨XB, 2, none⟩ (.pointer P0) = V1 := ⟨_, rfl⟩
  rw [hV1] at a1 a2
  have HV := hide hV
  have HV1 := hide hV1
  clear hV hV1 h21 h21' hK
  go_wp2_with fail
  rw [rounds_succ]
  go_wp2_with (go_at_call 21; (first | with_reducible refine a1.mono ?_ | with_reducible refine a2.mono ?_); rintro e w' ⟨rfl, rfl⟩)
  go_ret
  exact ⟨rfl, nq, by rw [HV.out, HV1.out]⟩

/-- What leaf says: the leaf that takes q; the two remembered ones may have changed. -/
def LeafSaid (C : Nat → Nat) (b len N XB : Nat) (NB : Nat → Nat) (RB g k : Nat) (W : World) (e : Ending) (W' : World) : Prop :=
  e = .returned (.pointer (some ⟨NB k, 0, none⟩)) ∧ ∃ p0' p1', Tree C b len N XB NB RB g W' p0' p1' ∧ W.grownBy W' (some XB)

theorem drewN_below (W : World) (n : Nat) : Below W.heap.size W (W.drewN n) := ⟨rfl, rfl, rfl, Nat.le_refl _, fun _ _ => rfl⟩

theorem leaf13 {C : Nat → Nat} {b len N XB : Nat} {NB : Nat → Nat} {RB g : Nat} {W : World} {p0 p1 : Option Nat} (hN : N = (len + 63) / 64) (hlen : len ≤ 1024) (hC : ∀ i j, i < j → j < len → C i < C j) (q k : Nat) (hk : Hit C N q k) (h : Tree C b len N XB NB RB g W p0 p1) :
    Calls Yba.prog 13 #[.pointer (some ⟨XB, 0, none⟩), .int .u64 (q : Int)] W (LeafSaid C b len N XB NB RB g k W) := by
  obtain ⟨hx0, hx1, hx2, hf1, hf2⟩ := h.x
  have hC' : ∀ i j, i < j → j < N → C (64 * i) < C (64 * j) := fun i j hij hj => hC _ _ (by omega) (by omega)
  have ht0 := takes_tree hN h q p0 h.q0
  have ht1 := takes_tree hN h q p1 h.q1
  have hb0 := h.back p0 h.q0
  have hb1 := h.back p1 h.q1
  have hto0 := h.to p0 h.q0
  have hstep : ∀ (V : World), Below W.heap.size W V → ∀ j, j < N → Tree C b len N XB NB RB g ((V.setCell ⟨XB, 2, none⟩ (.pointer (p0.map fun i => ⟨NB i, 0, none⟩))).setCell ⟨XB, 1, none⟩ (.pointer (some ⟨NB j, 0, none⟩))) (some j) p0 ∧ W.grownBy ((V.setCell ⟨XB, 2, none⟩ (.pointer (p0.map fun i => ⟨NB i, 0, none⟩))).setCell ⟨XB, 1, none⟩ (.pointer (some ⟨NB j, 0, none⟩))) (some XB) := by
    intro V hV j hj
    have hTV := h.grown hV
    obtain ⟨s1, s2⟩ := tree_set (d := .pointer (p0.map fun i => ⟨NB i, 0, none⟩)) (e := .pointer (some ⟨NB j, 0, none⟩)) hTV.xs
    refine ⟨hTV.of s2.size (fun B hB hne => s2.block B hB (by simpa using hne)) s1 (fun i e => by cases e; exact hj) h.q0, ⟨s2.os.trans hV.os, s2.tape.trans hV.tape, s2.output.trans hV.output, Nat.le_trans hV.size s2.size, fun B hB hne => (s2.block B (Nat.lt_of_lt_of_le hB hV.size) hne).trans (hV.block B hB)⟩⟩
  have hto1 : ∀ (V : World), Below W.heap.size W V → ∀ j, j < N → (convert 57 63 (.pointer (some ⟨NB j, 0, none⟩))).run Yba.prog (V.setCell ⟨XB, 2, none⟩ (.pointer (p0.map fun i => ⟨NB i, 0, none⟩))) = .ok (.pointer (some ⟨NB j, 0, none⟩)) (V.setCell ⟨XB, 2, none⟩ (.pointer (p0.map fun i => ⟨NB i, 0, none⟩))) := by
    intro V hV j hj
    have hTV := (h.grown hV).node j hj
    exact to_some (LeafAt.of_block hTV (Below.heap_setCell _ _ _ _ (h.ne hj))).c0
  cases t0 : takesB C N q p0
  · rw [t0] at ht0
    cases t1 : takesB C N q p1
    · rw [t1] at ht1
      rcases h.root with ⟨h1, h2⟩ | ⟨h1, h2⟩
      · obtain rfl : k = 0 := by have := hk.1; omega
        subst h2
        refine (leaf_c XB _ q _ _ W hx0 hx1 hx2 hf1 hf2 hb0 hb1 ht0 ht1 (h.node 0 (by omega)).c1 hto0 (hto1 W (Below.refl _ _) 0 (by omega))).mono ?_
        rintro e w' ⟨rfl, rfl⟩
        exact ⟨rfl, _, _, hstep W (Below.refl _ _) 0 (by omega)⟩
      · refine (leaf_d XB RB g N (NB k) k q _ _ W hk.1 (by omega) hx0 hx1 hx2 hf1 hf2 hb0 hb1 ht0 ht1 h2.c1 (h.kid k hk.1) (h.node k hk.1).c1 (fun n => ?_) (fun n => (h.grown (drewN_below W n)).to p0 h.q0) (fun n => hto1 _ (drewN_below W n) k hk.1)).mono ?_
        · have hT := h.grown (drewN_below W n)
          exact child20k RB g N q k (fun i => C (64 * i)) NB (W.drewN n) (by omega) hC' hk.1 hk.2.1 hk.2.2 h2.c1 hT.kid (fun i hi => (hT.node i hi).c0)
        · rintro e w' ⟨rfl, n, rfl⟩
          exact ⟨rfl, _, _, hstep _ (drewN_below W n) k hk.1⟩
    · rw [t1] at ht1
      obtain rfl := takesB_hit hC' hk h.q1 t1
      refine (leaf_b XB q _ _ W hx1 hx2 hf1 hf2 hb0 hb1 ht0 ht1 hto0 (hto1 W (Below.refl _ _) k hk.1)).mono ?_
      rintro e w' ⟨rfl, rfl⟩
      exact ⟨rfl, _, _, hstep W (Below.refl _ _) k hk.1⟩
  · rw [t0] at ht0
    obtain rfl := takesB_hit hC' hk h.q0 t0
    refine (leaf_a XB q _ W hx1 hb0 ht0).mono ?_
    rintro e w' ⟨rfl, rfl⟩
    exact ⟨rfl, _, _, h, ⟨rfl, rfl, rfl, Nat.le_refl _, fun _ _ _ => rfl⟩⟩

end Go.Proofs.Ybulkaswg

/-
  LawS2216AFloor: buildTree (11) over at most 16 leaves, and the maker of an inner node (12).
-/
import Derived.Test.YbulkaswgStarts
import Derived.Shelf.RegionOpen
namespace Go.Proofs.Ybulkaswg
open Go.RowKit Go.Shelf

attribute [local go_sem] Oper.semAt_some
attribute [-go_sem] Builtin.append_

theorem make12_in (F : Fence) (n : Nat) (h12 : F.fn 12) (hro : F.round = none) (g N cap K c0 : Nat) (w : World) (hN : 1 ≤ N) (hk : w.cell? ⟨g, 0, none⟩ = some (.pointer (some ⟨K, 0, none⟩))) (hc : w.cell? ⟨K, 0, none⟩ = some (.int .u64 ((c0 : Nat) : Int))) :
    CallsIn F n Yba.prog 12 #[.slice (some ⟨g, 0, none⟩) N cap] w fun e w' => e = .returned (.pointer (some ⟨w.heap.size, 0, none⟩)) ∧ w' = w.alloc (.cells #[.int .u64 ((c0 : Nat) : Int), .slice (some ⟨g, 0, none⟩) N cap, .slice none 0 0, .pointer none] 59) := by
  refine callsIn_of_wp Yba.func12 rfl h12 ?_ hro
  simp only [Yba.ntmps12, List.size_toArray, List.length_cons, List.length_nil, Nat.reduceAdd, Nat.reduceSub, Array.replicate_succ, Array.replicate_zero, List.push_toArray, List.append_toArray, List.nil_append, List.cons_append]
  have hN' : 0 < N := hN
  gi_wp2
  go_ret
  exact ⟨rfl, rfl⟩

/-- Between the rounds of buildTree's range. -/
def InvB (W : World) (g N cap c0 u : Nat) (pre : List Unit) (V : World) : Prop :=
  Below W.heap.size W V ∧ Boxed V W.heap.size 70 (.func (.func 12) #[] #[]) ∧ Boxed V (u + 1) 53 (.slice (some ⟨g, 0, none⟩) N cap) ∧ Boxed V (u + 2) 3 (.int .i64 16) ∧
  ((pre = [] ∧ ∃ UB, Boxed V u 53 (.slice (some ⟨UB, 0, none⟩) 0 1) ∧ V.ownsRow W.heap.size 57 1 (.slice (some ⟨UB, 0, none⟩) 0 1) 0 []) ∨
   (pre = [()] ∧ ∃ g2 cap2 RB, Boxed V u 53 (.slice (some ⟨g2, 0, none⟩) 1 cap2) ∧ V.ownsRow W.heap.size 57 1 (.slice (some ⟨g2, 0, none⟩) 1 cap2) 1 [.pointer (some ⟨RB, 0, none⟩)] ∧ W.heap.size ≤ RB ∧ RootAt V RB c0 (.slice (some ⟨g, 0, none⟩) N N)))

theorem ownsRow_kept {V V' : World} {row : Option Nat} {base n : Nat} {v : Value} {xs : List Value} (h : V.ownsRow base 57 1 v n xs) (hg : V.grownBy V' row) (hr : ∀ r, row = some r → ∃ o : Obj, V.heap[r]? = some o ∧ o.isCells = false) : V'.ownsRow base 57 1 v n xs := by
  refine ⟨h.1, ?_⟩
  rcases h.2 with ⟨h0, h1⟩ | ⟨g, cap, cur, h0, h1, h2, h3⟩
  · exact .inl ⟨h0, h1⟩
  · exact .inr ⟨g, cap, cur, h0, h1, cells_kept h2 hg hr, h3⟩

theorem invB_own {W : World} {g N cap c0 u : Nat} (m : Nat) (hm : W.heap.size ≤ m) : OwnFrom m (InvB W g N cap c0 u) := by
  rintro s V V' row ⟨hB, b1, b2, b3, hc⟩ hg hr
  have hr' : ∀ r, row = some r → ∃ o : Obj, V.heap[r]? = some o ∧ o.isCells = false := fun r e => (hr r e).2
  refine ⟨hB.grown hg hB.size (fun k e => Nat.le_trans hm (hr k e).1), cells_kept b1 hg hr', cells_kept b2 hg hr', cells_kept b3 hg hr', ?_⟩
  rcases hc with ⟨h0, UB, h1, h2⟩ | ⟨h0, g2, cap2, RB, h1, h2, h3, h4⟩
  · exact .inl ⟨h0, UB, cells_kept h1 hg hr', ownsRow_kept h2 hg hr'⟩
  · exact .inr ⟨h0, g2, cap2, RB, cells_kept h1 hg hr', ownsRow_kept h2 hg hr', h3, cells_kept h4 hg hr'⟩

/-- The world behind 'up = append(up, inner(c))'. -/
theorem invB_step {W V Wx w1 : World} {g N cap c0 u UB g2 cap2 : Nat} (hu : W.heap.size < u) (hB : Below W.heap.size W V) (b1 : Boxed V W.heap.size 70 (.func (.func 12) #[] #[])) (b2 : Boxed V (u + 1) 53 (.slice (some ⟨g, 0, none⟩) N cap)) (b3 : Boxed V (u + 2) 3 (.int .i64 16)) (h1 : Boxed V u 53 (.slice (some ⟨UB, 0, none⟩) 0 1)) (h2 : V.ownsRow W.heap.size 57 1 (.slice (some ⟨UB, 0, none⟩) 0 1) 0 [])
    (hWx : ((V.alloc (.cells #[.int .u64 ((c0 : Nat) : Int), .slice (some ⟨g, 0, none⟩) N N, .slice none 0 0, .pointer none] 59)).alloc (.cells #[.pointer (some ⟨V.heap.size, 0, none⟩)] 57)).drew = Wx)
    (hown : w1.ownsRow W.heap.size 57 1 (.slice (some ⟨g2, 0, none⟩) 1 cap2) 1 [.pointer (some ⟨V.heap.size, 0, none⟩)]) (hgrow : Wx.grownBy w1 (some UB)) :
    Boxed w1 u 53 (.slice (some ⟨UB, 0, none⟩) 0 1) ∧ KeepsOthers V (w1.setCell ⟨u, 0, none⟩ (.slice (some ⟨g2, 0, none⟩) 1 cap2)) ∧ KeepBoxes (u + 1) (u + 2) V (w1.setCell ⟨u, 0, none⟩ (.slice (some ⟨g2, 0, none⟩) 1 cap2)) ∧ InvB W g N cap c0 u [()] (w1.setCell ⟨u, 0, none⟩ (.slice (some ⟨g2, 0, none⟩) 1 cap2)) := by
  subst hWx
  have hg2 : ((V.alloc (.cells #[.int .u64 ((c0 : Nat) : Int), .slice (some ⟨g, 0, none⟩) N N, .slice none 0 0, .pointer none] 59)).alloc (.cells #[.pointer (some ⟨V.heap.size, 0, none⟩)] 57)).grownBy w1 (Value.slice (some ⟨UB, 0, none⟩) 0 1).ownBlock := ⟨hgrow.os, hgrow.tape, hgrow.output, hgrow.size, hgrow.block⟩
  have hVs := hB.size
  obtain ⟨k1, k2, k3, k4, k5⟩ := (h1.alloc (.cells #[.int .u64 ((c0 : Nat) : Int), .slice (some ⟨g, 0, none⟩) N N, .slice none 0 0, .pointer none] 59)).appended (by decide) (h2.alloc _) (by simp; omega) (Nat.le_of_lt hu) hown hg2
  have hne : ∀ B, B < V.heap.size + 1 → B ≠ u → some B ≠ (Value.slice (some ⟨UB, 0, none⟩) 0 1).ownBlock → (w1.setCell ⟨u, 0, none⟩ (.slice (some ⟨g2, 0, none⟩) 1 cap2)).heap[B]? = (V.alloc (.cells #[.int .u64 ((c0 : Nat) : Int), .slice (some ⟨g, 0, none⟩) N N, .slice none 0 0, .pointer none] 59)).heap[B]? := fun B hB hb hr => by
    rw [Below.heap_setCell _ _ _ B (fun e => hb e)]
    rw [hg2.block B (by simp; omega) hr]
    exact Below.heap_alloc _ _ _ (by simp; omega)
  have hold : ∀ B, B < V.heap.size → B ≠ u → some B ≠ (Value.slice (some ⟨UB, 0, none⟩) 0 1).ownBlock → (w1.setCell ⟨u, 0, none⟩ (.slice (some ⟨g2, 0, none⟩) 1 cap2)).heap[B]? = V.heap[B]? := fun B hB hb hr => by
    rw [hne B (by omega) hb hr]
    exact Below.heap_alloc _ _ _ hB
  have hnew := (hne V.heap.size (by omega) (by have := h1.lt; omega) ?_).trans (World.alloc_heap_new V _)
  · have a2 : Boxed (w1.setCell ⟨u, 0, none⟩ (.slice (some ⟨g2, 0, none⟩) 1 cap2)) (u + 1) 53 (.slice (some ⟨g, 0, none⟩) N cap) := (hold _ b2.lt (by omega) (b2.not_row (by decide) h2)).trans b2
    have a3 : Boxed (w1.setCell ⟨u, 0, none⟩ (.slice (some ⟨g2, 0, none⟩) 1 cap2)) (u + 2) 3 (.int .i64 16) := (hold _ b3.lt (by omega) (b3.not_row (by decide) h2)).trans b3
    refine ⟨k1, (KeepsOthers.alloc _ _).trans k4, ⟨fun x hx => ?_, fun x hx => ?_⟩, (hB.alloc hVs _).trans k5, (hold _ b1.lt (by omega) (b1.not_row (by decide) h2)).trans b1, a2, a3, .inr ⟨rfl, g2, cap2, V.heap.size, k2, k3, hVs, hnew⟩⟩
    · rw [b2.cell] at hx
      rw [a2.cell]
      exact hx
    · rw [b3.cell] at hx
      rw [a3.cell]
      exact hx
  · rcases h2.2 with ⟨h0, _⟩ | ⟨g', cap', cur, h0, _, hgb, _⟩
    · cases h0
    · cases h0
      have := (Array.getElem?_eq_some_iff.1 hgb).1
      simp [Value.ownBlock]
      omega

set_option maxRecDepth 100000 in
set_option maxHeartbeats 2000000 in
theorem build11_in (F : Fence) (n : Nat) (h11 : F.fn 11) (h12 : F.fn 12) (h17 : F.fn 17) (h25 : F.fn 25) (hro : F.round = none) (hn : 3 ≤ n) : Build11 F n := by
  intro g N cap NB c0 W hN1 hN16 hcap hg hnb hkid hc0
  have h1 : 1 ≤ n := by omega
  obtain ⟨i0, hi, hz0, hz1, hz2⟩ := info_parts info57
  refine callsIn_of_wp_marks Yba.func11 rfl h11 ?_ hro
  simp only [Yba.ntmps11, List.size_toArray, List.length_cons, List.length_nil, Nat.reduceAdd, Nat.reduceSub, Array.replicate_succ, Array.replicate_zero, List.push_toArray, List.append_toArray, List.nil_append, List.cons_append]
  gi_wp2
  obtain ⟨W1, hW1⟩ : ∃ W1, W.alloc (.cells #[.func (.func 12) #[] #[]] 70) = W1 := ⟨_, rfl⟩
  have hB1 : Below W.heap.size W W1 := by rw [← hW1]; exact (Below.refl _ W).alloc (Nat.le_refl _) _
  have hs1 : W1.heap.size = W.heap.size + 1 := by rw [← hW1]; simp
  have bF1 : Boxed W1 W.heap.size 70 (.func (.func 12) #[] #[]) := by rw [← hW1]; exact Boxed.new _ _ _
  have hk0 : W1.cell? ⟨g, 0, none⟩ = some (.pointer (some ⟨NB 0, 0, none⟩)) := by
    rw [hB1.cell (p := ⟨g, 0, none⟩) hg]
    exact hkid 0 (by omega)
  by_cases hN : N = 1
  · refine wpIn_loop_once ?_
    have hN' : ¬ (1 : Int) < (N : Int) := by omega
    have hN0 : 0 < N := by omega
    gi_wp2
    exact ⟨_, results_tmp rfl _ _ _, rfl, hB1⟩
  · refine wpIn_loop_rounds 2 ?_
    unfold Code.roundsIn
    have hN' : (1 : Int) < (N : Int) := by omega
    have hw1 : IntKind.i64.wrap ((N : Int) + 16) = (N : Int) + 16 := wrap_i64_in _ (by omega) (by omega)
    have hw2 : IntKind.i64.wrap ((N : Int) + 16 - 1) = (N : Int) + 15 := by rw [wrap_i64_in _ (by omega) (by omega)]; omega
    have hq : ((N : Int) + 15).tdiv 16 = 1 := by rw [Int.tdiv_eq_ediv_of_nonneg (by omega)]; omega
    obtain ⟨W2, hmk, hown2, hgr2⟩ := run_makeSlice_owned (P := Yba.prog) (w := W1) W.heap.size 53 57 i0 (.pointer none) 1 Yba.underlying53 hi hz0 hz1 .i64 .i64 1 (by omega) (by omega) (by unfold maxLen; omega) hB1.size
    rw [show ((1 : Nat) : Int) = 1 from rfl] at hmk
    rw [hs1] at hmk hown2
    have bx := Boxed.new W2 53 (.slice none 0 0)
    have bxc := bx.cell
    have bxf := bx.frozen
    gi_wp2_with (gi_at_call 17; refine (chunk17_in F (n - 1) h17 hro _ _ _ _).mono ?_; rintro e w' ⟨rfl, rfl⟩)
    generalize hW0 : ((W2.alloc (.cells #[.slice (some ⟨W.heap.size + 1, 0, none⟩) 0 1] 53)).alloc (.cells #[.slice (some ⟨g, 0, none⟩) N cap] 53)).alloc (.cells #[.int .i64 16] 3) = W0
    have hu : W.heap.size < W2.heap.size := by have := hgr2.size; omega
    have hsz0 : W0.heap.size = W2.heap.size + 3 := by rw [← hW0]; simp
    have bF : Boxed W0 W.heap.size 70 (.func (.func 12) #[] #[]) := by rw [← hW0]; exact (((bF1.kept hgr2 (by simp)).alloc _).alloc _).alloc _
    have bU : Boxed W0 W2.heap.size 53 (.slice (some ⟨W.heap.size + 1, 0, none⟩) 0 1) := by rw [← hW0]; exact ((Boxed.new _ _ _).alloc _).alloc _
    have bS : Boxed W0 (W2.heap.size + 1) 53 (.slice (some ⟨g, 0, none⟩) N cap) := by rw [← hW0]; simpa using (Boxed.new (W2.alloc (.cells #[.slice (some ⟨W.heap.size + 1, 0, none⟩) 0 1] 53)) 53 (.slice (some ⟨g, 0, none⟩) N cap)).alloc (.cells #[.int .i64 16] 3)
    have bN : Boxed W0 (W2.heap.size + 2) 3 (.int .i64 16) := by rw [← hW0]; simpa using Boxed.new ((W2.alloc (.cells #[.slice (some ⟨W.heap.size + 1, 0, none⟩) 0 1] 53)).alloc (.cells #[.slice (some ⟨g, 0, none⟩) N cap] 53)) 3 (.int .i64 16)
    have hrow0 : W0.ownsRow W.heap.size 57 1 (.slice (some ⟨W.heap.size + 1, 0, none⟩) 0 1) 0 [] := by rw [← hW0]; exact ((hown2.alloc _).alloc _).alloc _
    have hB0 : Below W.heap.size W W0 := by rw [← hW0]; exact (((hB1.grown hgr2 hB1.size (fun k e => by cases e)).alloc (by omega) _).alloc (by simp; omega) _).alloc (by simp; omega) _
    refine wpIn_rangeFunc_ownG hro h1 (gf := 25) (lb := #[.pointer (some ⟨W2.heap.size + 1, 0, none⟩), .pointer (some ⟨W2.heap.size + 2, 0, none⟩)]) rfl h25 (enters_of Yba.func25 (by kernel_rfl) rfl)
      (chunk25_stops F (n - 1) h25 hro (by omega) (W2.heap.size + 1) (W2.heap.size + 2) g N cap hN1 hN16 hcap W0 (by omega) (by omega) bS.cell bN.cell) KeepBoxes.trans (fun W l o o' _ h ho _ => keepBoxes_b W l o o' h ho) (Below.refl _ _) (fun _ => rfl)
      (InvB W g N cap c0 W2.heap.size)
      (fun _ _ _ => False)
      (invB_own _ (by omega))
      (fun _ _ _ _ _ hs _ _ => hs)
      ⟨hB0, bF, bS, bN, .inl ⟨rfl, _, bU, hrow0⟩⟩
      (fun _ => { tmps := #[.slice (some ⟨g, 0, none⟩) N cap, .func (.func 12) #[] #[], undef, .pointer (some ⟨W.heap.size, 0, none⟩), .pointer none, .slice (some ⟨g, 0, none⟩) N cap, .pointer (some ⟨W2.heap.size, 0, none⟩), .slice (some ⟨g, 0, none⟩) N N, .slice (some ⟨g, 0, none⟩) N cap, .slice (some ⟨g, 0, none⟩) N cap, .int .i64 (N : Int), .bool true, .slice (some ⟨g, 0, none⟩) N cap, .int .i64 (N : Int), .int .i64 ((N : Int) + 16), .int .i64 ((N : Int) + 15), .int .i64 1, .slice (some ⟨W.heap.size + 1, 0, none⟩) 0 1, .slice (some ⟨g, 0, none⟩) N cap, .func (.func 25) #[] #[.pointer (some ⟨W2.heap.size + 1, 0, none⟩), .pointer (some ⟨W2.heap.size + 2, 0, none⟩)], .slice (some ⟨g, 0, none⟩) N N, undef, undef, undef, undef, undef, undef, undef, undef, undef, undef], defers := [] }) ?assign ?body ?done ?stop
    case assign =>
      intro l x V K hK
      gi_wp2
      exact hK
    case body =>
      rintro l pre x V ⟨hB, b1, b2, b3, hcs⟩ hlt
      obtain rfl : pre = [] := List.length_eq_zero_iff.1 (by omega)
      obtain ⟨UB, bu, hrw⟩ : ∃ UB, Boxed V W2.heap.size 53 (.slice (some ⟨UB, 0, none⟩) 0 1) ∧ V.ownsRow W.heap.size 57 1 (.slice (some ⟨UB, 0, none⟩) 0 1) 0 [] := by
        rcases hcs with ⟨_, h⟩ | ⟨h, _⟩
        · exact h
        · cases h
      clear hcs
      have hVs := hB.size
      have hn2 : 1 ≤ n - 1 - 1 := by omega
      have hgV : V.cell? ⟨g, 0, none⟩ = some (.pointer (some ⟨NB 0, 0, none⟩)) := (hB.cell (p := ⟨g, 0, none⟩) hg).trans (hkid 0 (by omega))
      have hcV : V.cell? ⟨NB 0, 0, none⟩ = some (.int .u64 ((c0 : Nat) : Int)) := (hB.cell (p := ⟨NB 0, 0, none⟩) hnb).trans hc0
      obtain ⟨Wx, hWx⟩ : ∃ Wx, ((V.alloc (.cells #[.int .u64 ((c0 : Nat) : Int), .slice (some ⟨g, 0, none⟩) N N, .slice none 0 0, .pointer none] 59)).alloc (.cells #[.pointer (some ⟨V.heap.size, 0, none⟩)] 57)).drew = Wx := ⟨_, rfl⟩
      have hown : Wx.ownsRow W.heap.size 57 1 (.slice (some ⟨UB, 0, none⟩) 0 1) 0 [] := by rw [← hWx]; exact ((hrw.alloc _).alloc _).drew
      have hnw : Wx.cell? ⟨V.heap.size + 1, 0, none⟩ = some (.pointer (some ⟨V.heap.size, 0, none⟩)) := by
        rw [← hWx]
        exact (by simpa using Boxed.new (V.alloc (.cells #[.int .u64 ((c0 : Nat) : Int), .slice (some ⟨g, 0, none⟩) N N, .slice none 0 0, .pointer none] 59)) 57 (.pointer (some ⟨V.heap.size, 0, none⟩)) : Boxed ((V.alloc (.cells #[.int .u64 ((c0 : Nat) : Int), .slice (some ⟨g, 0, none⟩) N N, .slice none 0 0, .pointer none] 59)).alloc (.cells #[.pointer (some ⟨V.heap.size, 0, none⟩)] 57)) (V.heap.size + 1) 57 (.pointer (some ⟨V.heap.size, 0, none⟩))).cell
      have hxs : Wx.heap.size = V.heap.size + 2 := by rw [← hWx]; simp
      obtain ⟨v', w1, hrun, hown1, hgrow1, hnil1, hob1⟩ := run_append_own_at (P := Yba.prog) (w := Wx) W.heap.size 53 53 57 i0 (.pointer none) 1 8 Yba.underlying53 hi hz0 hz1 hz2 rfl (by decide) (.slice (some ⟨UB, 0, none⟩) 0 1) 0 _ hown ⟨V.heap.size + 1, 0, none⟩ 1 1 [.pointer (some ⟨V.heap.size, 0, none⟩)] rfl (fun j u hj => by rcases j with _ | j <;> simp at hj; subst hj; exact hnw) (by simp [Value.oneCell']) (by unfold maxLen; omega) (by omega) (by omega)
      obtain ⟨g', cap', rfl⟩ := ownsRow_succ hown1
      obtain ⟨bu1, hk2, hkp2, hinv2⟩ := invB_step hu hB b1 b2 b3 bu hrw hWx hown1 hgrow1
      have cu := bu.cell
      have cf := b1.cell
      have cu1 := bu1.cell
      have fu1 := bu1.frozen
      have cuA : (V.alloc (.cells #[.int .u64 ((c0 : Nat) : Int), .slice (some ⟨g, 0, none⟩) N N, .slice none 0 0, .pointer none] 59)).cell? ⟨W2.heap.size, 0, none⟩ = some (.slice (some ⟨UB, 0, none⟩) 0 1) := (bu.alloc _).cell
      have cuX : Wx.cell? ⟨W2.heap.size, 0, none⟩ = some (.slice (some ⟨UB, 0, none⟩) 0 1) := by rw [← hWx]; exact ((bu.alloc _).alloc _).cell
      have hmix : Yba.prog.follows Departure.mixedOrders = true := by kernel_rfl
      gi_wp2
      refine Code.wpIn_mono (Q := fun e _ W2' => e = .normal ∧ W2' = w1.setCell ⟨W2.heap.size, 0, none⟩ (.slice (some ⟨g', 0, none⟩) (0 + 1) cap')) ?cont (region_round hro (fun i o c h => by rcases i with _ | _ | _ | _ | _ | _ | _ | i <;> simp at h <;> subst h <;> simp) hmix ?reg)
      case reg =>
        refine wpAnyIn_take (i := 2) (v := ?_) hro rfl (by kernel_rfl) (by kernel_rfl) (by kernel_rfl) (fun _ _ _ h => by cases h.1) ⟨Or.inl ⟨by rfl, ?_⟩, fun _ => rfl⟩ ?_
        rotate_left
        · intro w; go_simp; try with_reducible rfl
        refine wpAnyIn_ready (rs := [0, 1]) (by kernel_rfl) (by simp) ?_
        refine AllReadyIn.cons rfl (fun K hK => ?_) ?_
        · go_simp
          refine hK _ _ ?_
          clear hK K
          refine wpAnyIn_ready (rs := [1]) (by kernel_rfl) (by simp) ?_
          refine AllReadyIn.cons rfl (fun K hK => ?_) ?_
          · go_simp
            refine hK _ _ ?_
            clear hK K
            refine wpAnyIn_ready (rs := [3]) (by kernel_rfl) (by simp) ?_
            refine AllReadyIn.cons rfl (fun K hK => ?_) ?_
            · go_simp
              refine (make12_in F _ h12 hro g N N (NB 0) c0 V.drew hN1 hgV hcV).mono ?_
              rintro e w' ⟨rfl, rfl⟩
              show K { tmps := _, defers := [] } (World.drew (V.alloc (.cells #[.int .u64 ((c0 : Nat) : Int), .slice (some ⟨g, 0, none⟩) N N, .slice none 0 0, .pointer none] 59)))
              rw [show V.drew.heap.size = V.heap.size from rfl]
              refine hK _ _ ?_
              clear hK K
              refine wpAnyIn_ready (rs := [4]) (by kernel_rfl) (by simp) ?_
              refine AllReadyIn.cons rfl (fun K hK => ?_) ?_
              · go_simp
                refine hK _ _ ?_
                clear hK K
                refine wpAnyIn_ready (rs := [5]) (by kernel_rfl) (by simp) ?_
                refine AllReadyIn.cons rfl (fun K hK => ?_) ?_
                · go_simp
                  refine hK _ _ ?_
                  clear hK K
                  refine wpAnyIn_ready (rs := [6]) (by kernel_rfl) (by simp) ?_
                  refine AllReadyIn.cons rfl (fun K hK => ?_) ?_
                  · go_simp
                    refine hK _ _ ?_
                    clear hK K
                    exact wpAnyIn_done (by kernel_rfl) ⟨rfl, rfl⟩ _
                  exact AllReadyIn.nil
                exact AllReadyIn.nil
              exact AllReadyIn.nil
            exact AllReadyIn.nil
          exact AllReadyIn.nil
        refine AllReadyIn.cons rfl (fun K hK => ?_) ?_
        · go_simp
          refine hK _ _ ?_
          clear hK K
          refine wpAnyIn_ready (rs := [0, 3]) (by kernel_rfl) (by simp) ?_
          refine AllReadyIn.cons rfl (fun K hK => ?_) ?_
          · go_simp
            refine hK _ _ ?_
            clear hK K
            refine wpAnyIn_ready (rs := [3]) (by kernel_rfl) (by simp) ?_
            refine AllReadyIn.cons rfl (fun K hK => ?_) ?_
            · go_simp
              refine (make12_in F _ h12 hro g N N (NB 0) c0 V.drew hN1 hgV hcV).mono ?_
              rintro e w' ⟨rfl, rfl⟩
              show K { tmps := _, defers := [] } (World.drew (V.alloc (.cells #[.int .u64 ((c0 : Nat) : Int), .slice (some ⟨g, 0, none⟩) N N, .slice none 0 0, .pointer none] 59)))
              rw [show V.drew.heap.size = V.heap.size from rfl]
              refine hK _ _ ?_
              clear hK K
              refine wpAnyIn_ready (rs := [4]) (by kernel_rfl) (by simp) ?_
              refine AllReadyIn.cons rfl (fun K hK => ?_) ?_
              · go_simp
                refine hK _ _ ?_
                clear hK K
                refine wpAnyIn_ready (rs := [5]) (by kernel_rfl) (by simp) ?_
                refine AllReadyIn.cons rfl (fun K hK => ?_) ?_
                · go_simp
                  refine hK _ _ ?_
                  clear hK K
                  refine wpAnyIn_ready (rs := [6]) (by kernel_rfl) (by simp) ?_
                  refine AllReadyIn.cons rfl (fun K hK => ?_) ?_
                  · go_simp
                    refine hK _ _ ?_
                    clear hK K
                    exact wpAnyIn_done (by kernel_rfl) ⟨rfl, rfl⟩ _
                  exact AllReadyIn.nil
                exact AllReadyIn.nil
              exact AllReadyIn.nil
            exact AllReadyIn.nil
          refine AllReadyIn.cons rfl (fun K hK => ?_) ?_
          · go_simp
            refine (make12_in F _ h12 hro g N N (NB 0) c0 V.drew hN1 hgV hcV).mono ?_
            rintro e w' ⟨rfl, rfl⟩
            show K { tmps := _, defers := [] } (World.drew (V.alloc (.cells #[.int .u64 ((c0 : Nat) : Int), .slice (some ⟨g, 0, none⟩) N N, .slice none 0 0, .pointer none] 59)))
            rw [show V.drew.heap.size = V.heap.size from rfl]
            refine hK _ _ ?_
            clear hK K
            refine wpAnyIn_ready (rs := [0, 4]) (by kernel_rfl) (by simp) ?_
            refine AllReadyIn.cons rfl (fun K hK => ?_) ?_
            · go_simp
              refine hK _ _ ?_
              clear hK K
              refine wpAnyIn_ready (rs := [4]) (by kernel_rfl) (by simp) ?_
              refine AllReadyIn.cons rfl (fun K hK => ?_) ?_
              · go_simp
                refine hK _ _ ?_
                clear hK K
                refine wpAnyIn_ready (rs := [5]) (by kernel_rfl) (by simp) ?_
                refine AllReadyIn.cons rfl (fun K hK => ?_) ?_
                · go_simp
                  refine hK _ _ ?_
                  clear hK K
                  refine wpAnyIn_ready (rs := [6]) (by kernel_rfl) (by simp) ?_
                  refine AllReadyIn.cons rfl (fun K hK => ?_) ?_
                  · go_simp
                    refine hK _ _ ?_
                    clear hK K
                    exact wpAnyIn_done (by kernel_rfl) ⟨rfl, rfl⟩ _
                  exact AllReadyIn.nil
                exact AllReadyIn.nil
              exact AllReadyIn.nil
            refine AllReadyIn.cons rfl (fun K hK => ?_) ?_
            · go_simp
              refine hK _ _ ?_
              clear hK K
              refine wpAnyIn_ready (rs := [0]) (by kernel_rfl) (by simp) ?_
              refine AllReadyIn.cons rfl (fun K hK => ?_) ?_
              · go_simp
                refine hK _ _ ?_
                clear hK K
                refine wpAnyIn_ready (rs := [5]) (by kernel_rfl) (by simp) ?_
                refine AllReadyIn.cons rfl (fun K hK => ?_) ?_
                · go_simp
                  refine hK _ _ ?_
                  clear hK K
                  refine wpAnyIn_ready (rs := [6]) (by kernel_rfl) (by simp) ?_
                  refine AllReadyIn.cons rfl (fun K hK => ?_) ?_
                  · go_simp
                    refine hK _ _ ?_
                    clear hK K
                    exact wpAnyIn_done (by kernel_rfl) ⟨rfl, rfl⟩ _
                  exact AllReadyIn.nil
                exact AllReadyIn.nil
              exact AllReadyIn.nil
            exact AllReadyIn.nil
          exact AllReadyIn.nil
        exact AllReadyIn.nil
      case cont =>
        rintro e a2 W2' ⟨rfl, rfl⟩
        gi_wp2
        exact ⟨hk2.from _, hkp2, hinv2⟩
    case done =>
      rintro D ys V hD rfl ⟨hB, b1, b2, b3, hcs⟩ hK
      obtain ⟨g2, cap2, RB, bu, hrw, hRB, hroot⟩ : ∃ g2 cap2 RB, Boxed V W2.heap.size 53 (.slice (some ⟨g2, 0, none⟩) 1 cap2) ∧ V.ownsRow W.heap.size 57 1 (.slice (some ⟨g2, 0, none⟩) 1 cap2) 1 [.pointer (some ⟨RB, 0, none⟩)] ∧ W.heap.size ≤ RB ∧ RootAt V RB c0 (.slice (some ⟨g, 0, none⟩) N N) := by
        rcases hcs with ⟨h, _⟩ | ⟨_, h⟩
        · cases h
        · exact h
      clear hcs
      have cu := bu.cell
      have hg2 : V.cell? ⟨g2, 0, none⟩ = some (.pointer (some ⟨RB, 0, none⟩)) := row_cell hrw 0 _ rfl
      gi_wp2
      unfold Code.roundsIn
      gi_wp2
      have hlD := (Array.getElem?_eq_some_iff.1 hK).1
      refine ⟨by simp, .inl ⟨_, _, rfl, run_takeDeferred hK, ?_⟩⟩
      refine ⟨_, results_tmp rfl _ _ _, RB, rfl, hB.grown (grownBy_putObj' V D _) hB.size (fun k e => by cases e; omega), ⟨by omega, hRB, cells_kept hroot (grownBy_putObj' V D _) (fun r e => by cases e; exact ⟨_, hK, rfl⟩)⟩⟩
    case stop =>
      rintro D c pre W _ _ h _
      exact h.elim

end Go.Proofs.Ybulkaswg

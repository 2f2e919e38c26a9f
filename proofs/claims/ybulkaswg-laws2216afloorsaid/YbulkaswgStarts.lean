/-
  LawS2216AFloor: newRunStarts (6): the leaves.
-/
import Derived.Test.YbulkaswgTree
import Derived.Shelf.RegionOpen
namespace Go.Proofs.Ybulkaswg
open Go.RowKit Go.Shelf

attribute [local go_sem] Oper.semAt_some
attribute [-go_sem] Builtin.append_

theorem wrap_i64_in (x : Int) (h0 : 0 ≤ x) (h1 : x ≤ 9223372036854775807) : IntKind.i64.wrap x = x := by
  simp [IntKind.wrap, IntKind.bits, IntKind.signed]
  omega

theorem row_cell {W : World} {base g n cap : Nat} {xs : List Value} (h : W.ownsRow base 57 1 (.slice (some ⟨g, 0, none⟩) n cap) n xs) (k : Nat) (v : Value) (hk : xs[k]? = some v) : W.cell? ⟨g, k, none⟩ = some v := by
  rcases h.2 with ⟨h0, _⟩ | ⟨g', cap', cur, h0, _, h2, h3, _, h5, h6⟩
  · cases h0
  · cases h0
    rw [← h6] at hk
    simp only [Nat.mul_one, List.getElem?_take] at hk
    split at hk
    · simp only [World.cell?, h2]
      simpa using hk
    · cases hk

set_option maxRecDepth 100000 in
set_option maxHeartbeats 2000000 in
theorem new6_in (F : Fence) (n : Nat) (h6 : F.fn 6) (h10 : F.fn 10) (h16 : F.fn 16) (hf11 : F.fn 11) (h11 : Build11 F (n - 1)) (hro : F.round = none) (hn : 3 ≤ n) (C : Nat → Nat) (b len N : Nat) (hl1 : 1 ≤ len) (hlen : len ≤ 1024) (hN : N = (len + 63) / 64) (w : World) (hb : b < w.heap.size)
    (hst : ∀ i, i < len → w.cell? ⟨b, 2 * i, none⟩ = some (.int .u64 ((C i : Nat) : Int)) ∧ w.cell? ⟨b, 2 * i + 1, none⟩ = some (.pointer none)) :
    CallsIn F n Yba.prog 6 #[.slice (some ⟨b, 0, none⟩) len len] w fun e W' => ∃ XB NB RB g, e = .returned (.pointer (some ⟨XB, 0, none⟩)) ∧ Below w.heap.size w W' ∧ w.heap.size ≤ XB ∧ Tree C b len N XB NB RB g W' none none := by
  have h1 : 1 ≤ n := by omega
  obtain ⟨i0, hi, hz0, hz1, hz2⟩ := info_parts info57
  refine callsIn_of_wp_marks Yba.func6 rfl h6 ?_ hro
  simp only [Yba.ntmps6, List.size_toArray, List.length_cons, List.length_nil, Nat.reduceAdd, Nat.reduceSub, Array.replicate_succ, Array.replicate_zero, List.push_toArray, List.append_toArray, List.nil_append, List.cons_append]
  gi_wp2_with (gi_at_call 10; refine (chunk10_in F (n - 1) h10 hro _ _ _ _).mono ?_; rintro e w' ⟨rfl, rfl⟩)
  generalize hW0 : ((w.alloc (.cells #[.slice none 0 0] 53)).alloc (.cells #[.slice (some ⟨b, 0, none⟩) len len] 26)).alloc (.cells #[.int .i64 64] 3) = W0
  have hB0 : Below w.heap.size w W0 := by rw [← hW0]; exact (((Below.refl _ w).alloc (Nat.le_refl _) _).alloc (by simp) _).alloc (by simp; omega) _
  have hsz : W0.heap.size = w.heap.size + 3 := by rw [← hW0]; simp
  have bL : Boxed W0 w.heap.size 53 (.slice none 0 0) := by rw [← hW0]; exact ((Boxed.new _ _ _).alloc _).alloc _
  have bS : Boxed W0 (w.heap.size + 1) 26 (.slice (some ⟨b, 0, none⟩) len len) := by rw [← hW0]; simpa using (Boxed.new (w.alloc (.cells #[.slice none 0 0] 53)) 26 (.slice (some ⟨b, 0, none⟩) len len)).alloc (.cells #[.int .i64 64] 3)
  have bN : Boxed W0 (w.heap.size + 2) 3 (.int .i64 64) := by rw [← hW0]; simpa using Boxed.new ((w.alloc (.cells #[.slice none 0 0] 53)).alloc (.cells #[.slice (some ⟨b, 0, none⟩) len len] 26)) 3 (.int .i64 64)
  refine wpIn_rangeFunc_ownG hro h1 (gf := 16) (lb := #[.pointer (some ⟨w.heap.size + 1, 0, none⟩), .pointer (some ⟨w.heap.size + 2, 0, none⟩)]) rfl h16 (enters_of Yba.func16 (by kernel_rfl) rfl)
    (chunk16_stops F (n - 1) h16 hro (by omega) (w.heap.size + 1) (w.heap.size + 2) b len len N hlen (Nat.le_refl _) hN W0 (by omega) (by omega) bS.cell bN.cell) KeepBoxes.trans (fun W l o o' _ h ho _ => keepBoxes_b W l o o' h ho) (Below.refl _ _) (fun _ => rfl)
    (Inv C b len w.heap.size N w)
    (fun _ _ _ => False)
    (inv_own (Nat.le_refl _) _ (by omega))
    (fun _ _ _ _ _ hs _ _ => hs)
    ⟨⟨_, fun _ => 0, ⟨bL, ⟨rfl, .inl ⟨rfl, rfl⟩⟩, by simp, fun i h => absurd h (by simp), fun i h => absurd h (by simp), fun i j _ h => absurd h (by simp)⟩⟩, hB0, bS, bN⟩
    (fun x => { tmps := #[.slice (some ⟨b, 0, none⟩) len len, undef, .pointer none, .pointer (some ⟨w.heap.size, 0, none⟩), piece b len x.1, undef, undef, .slice (some ⟨b, 0, none⟩) len len, .func (.func 16) #[] #[.pointer (some ⟨w.heap.size + 1, 0, none⟩), .pointer (some ⟨w.heap.size + 2, 0, none⟩)], piece b len x.1, undef, undef, undef, undef, undef, undef, undef, undef, undef, undef, undef, undef, undef, undef, undef, undef, undef, undef, undef, undef, undef, undef, undef, undef, undef, undef, undef, undef, undef, undef, undef, undef, undef], defers := [] }) ?assign ?body ?done ?stop
  case assign =>
    intro l x W K hK
    gi_wp2
    exact hK
  case body =>
    rintro l pre x W ⟨⟨v, NB, hL⟩, hB, b1, b2⟩ hlt
    have hc := hL.box.cell
    have hx := x.2
    have hs0 : W.cell? ⟨b, 128 * x.1, none⟩ = some (.int .u64 ((C (64 * x.1) : Nat) : Int)) := by
      rw [hB.cell (p := ⟨b, 128 * x.1, none⟩) hb, show 128 * x.1 = 2 * (64 * x.1) by omega]
      exact (hst _ (by omega)).1
    have hn2 : 1 ≤ n - 1 - 1 := by omega
    obtain ⟨Wx, hWx⟩ : ∃ Wx, ((W.alloc (.cells #[.int .u64 ((C (64 * x.1) : Nat) : Int), .slice none 0 0, piece b len x.1, .pointer none] 59)).alloc (.cells #[.pointer (some ⟨W.heap.size, 0, none⟩)] 57)).drew = Wx := ⟨_, rfl⟩
    have hown : Wx.ownsRow w.heap.size 57 1 v pre.length ((List.range pre.length).map fun i => Value.pointer (some ⟨NB i, 0, none⟩)) := by rw [← hWx]; exact ((hL.row.alloc _).alloc _).drew
    have hnw : Wx.cell? ⟨W.heap.size + 1, 0, none⟩ = some (.pointer (some ⟨W.heap.size, 0, none⟩)) := by
      rw [← hWx]
      exact (by simpa using Boxed.new (W.alloc (.cells #[.int .u64 ((C (64 * x.1) : Nat) : Int), .slice none 0 0, piece b len x.1, .pointer none] 59)) 57 (.pointer (some ⟨W.heap.size, 0, none⟩)) : Boxed ((W.alloc (.cells #[.int .u64 ((C (64 * x.1) : Nat) : Int), .slice none 0 0, piece b len x.1, .pointer none] 59)).alloc (.cells #[.pointer (some ⟨W.heap.size, 0, none⟩)] 57)) (W.heap.size + 1) 57 (.pointer (some ⟨W.heap.size, 0, none⟩))).cell
    have hxs : Wx.heap.size = W.heap.size + 2 := by rw [← hWx]; simp
    have hws : w.heap.size ≤ W.heap.size := hB.size
    obtain ⟨v', w1, hrun, hown1, hgrow1, hnil1, hob1⟩ := run_append_own_at (P := Yba.prog) (w := Wx) w.heap.size 53 53 57 i0 (.pointer none) 1 8 Yba.underlying53 hi hz0 hz1 hz2 rfl (by decide) v pre.length _ hown ⟨W.heap.size + 1, 0, none⟩ 1 1 [.pointer (some ⟨W.heap.size, 0, none⟩)] rfl (fun j u hj => by rcases j with _ | j <;> simp at hj; subst hj; exact hnw) (by simp [Value.oneCell']) (by unfold maxLen; omega) (by omega) (by omega)
    obtain ⟨g', cap', rfl⟩ := ownsRow_succ hown1
    obtain ⟨bL1, bL2, row2, hk2, hb2, hfr2, hnew2⟩ := leaves_mid x hL hws hWx hown1 hgrow1
    have hc1 := bL1.cell
    have hf1 := bL1.frozen
    dsimp only [piece] at hWx ⊢
    have hml1 : 0 < min 64 (len - 64 * x.1) := by omega
    generalize min 64 (len - 64 * x.1) = ml at hWx hml1 ⊢
    have hcA : (W.alloc (.cells #[.int .u64 ((C (64 * x.1) : Nat) : Int), .slice none 0 0, .slice (some ⟨b, 128 * x.1, none⟩) ml ml, .pointer none] 59)).cell? ⟨w.heap.size, 0, none⟩ = some v := (hL.box.alloc _).cell
    have hcX : Wx.cell? ⟨w.heap.size, 0, none⟩ = some v := by rw [← hWx]; exact ((hL.box.alloc _).alloc _).cell
    have hmix : Yba.prog.follows Departure.mixedOrders = true := by kernel_rfl
    gi_wp2
    refine Code.wpIn_mono (Q := fun e a2 W2 => e = .normal ∧ a2 = { tmps := #[.slice (some ⟨b, 0, none⟩) len len, undef, .pointer none, .pointer (some ⟨w.heap.size, 0, none⟩), .slice (some ⟨b, 128 * x.1, none⟩) ml ml, undef, undef, .slice (some ⟨b, 0, none⟩) len len, .func (.func 16) #[] #[.pointer (some ⟨w.heap.size + 1, 0, none⟩), .pointer (some ⟨w.heap.size + 2, 0, none⟩)], .slice (some ⟨b, 128 * x.1, none⟩) ml ml, v, .slice (some ⟨b, 128 * x.1, none⟩) ml ml, .pointer (some ⟨b, 128 * x.1, none⟩), .pointer (some ⟨b, 128 * x.1, none⟩), .int .u64 ((C (64 * x.1) : Nat) : Int), .slice (some ⟨b, 128 * x.1, none⟩) ml ml, .agg #[.int .u64 ((C (64 * x.1) : Nat) : Int), .slice none 0 0, .slice (some ⟨b, 128 * x.1, none⟩) ml ml, .pointer none], .pointer (some ⟨W.heap.size, 0, none⟩), .slice (some ⟨W.heap.size + 1, 0, none⟩) 1 1, .slice (some ⟨g', 0, none⟩) (pre.length + 1) cap', undef, undef, undef, undef, undef, undef, undef, undef, undef, undef, undef, undef, undef, undef, undef, undef, undef, undef, undef, undef, undef, undef, undef], defers := [] } ∧ W2 = w1.setCell ⟨w.heap.size, 0, none⟩ (.slice (some ⟨g', 0, none⟩) (pre.length + 1) cap')) ?cont (region_round hro (fun i o c h => by rcases i with _ | _ | _ | _ | _ | _ | _ | _ | _ | _ | _ | _ | i <;> simp at h <;> subst h <;> simp) hmix ?reg)
    case reg =>
      refine wpAnyIn_take (i := 1) (v := .slice (some ⟨b, 128 * x.1, none⟩) ml ml) hro rfl (by kernel_rfl) (by kernel_rfl) (by kernel_rfl) (fun _ _ _ h => by cases h.1) ⟨Or.inl ⟨by rfl, fun w => by go_simp⟩, fun _ => rfl⟩ ?_
      refine wpAnyIn_take (i := 2) (v := .pointer (some ⟨b, 128 * x.1, none⟩)) hro rfl (by kernel_rfl) (by kernel_rfl) (by kernel_rfl) (fun _ _ _ h => by cases h.1) ⟨Or.inl ⟨by rfl, fun w => by go_simp⟩, fun _ => rfl⟩ ?_
      refine wpAnyIn_take (i := 3) (v := .pointer (some ⟨b, 128 * x.1, none⟩)) hro rfl (by kernel_rfl) (by kernel_rfl) (by kernel_rfl) (fun _ _ _ h => by cases h.1) ⟨Or.inl ⟨by rfl, fun w => by go_simp⟩, fun _ => rfl⟩ ?_
      refine wpAnyIn_take (i := 5) (v := .slice (some ⟨b, 128 * x.1, none⟩) ml ml) hro rfl (by kernel_rfl) (by kernel_rfl) (by kernel_rfl) (fun _ _ _ h => by cases h.1) ⟨Or.inl ⟨by rfl, fun w => by go_simp⟩, fun _ => rfl⟩ ?_
      refine wpAnyIn_ready (rs := [0, 4]) (by kernel_rfl) (by simp) ?_
      refine AllReadyIn.cons rfl (fun K hK => ?_) ?_
      · go_simp
        refine hK _ _ ?_
        clear hK K
        refine wpAnyIn_ready (rs := [4]) (by kernel_rfl) (by simp) ?_
        refine AllReadyIn.cons rfl (fun K hK => ?_) ?_
        · go_simp
          refine hK _ _ ?_
          clear hK K
          refine wpAnyIn_take (i := 6) (v := .agg #[.int .u64 ((C (64 * x.1) : Nat) : Int), .slice none 0 0, .slice (some ⟨b, 128 * x.1, none⟩) ml ml, .pointer none]) hro rfl (by kernel_rfl) (by kernel_rfl) (by kernel_rfl) (fun _ _ _ h => by cases h.1) ⟨Or.inl ⟨by rfl, fun w => by go_simp⟩, fun _ => rfl⟩ ?_
          refine wpAnyIn_ready (rs := [7]) (by kernel_rfl) (by simp) ?_
          refine AllReadyIn.cons rfl (fun K hK => ?_) ?_
          · go_simp
            refine hK _ _ ?_
            clear hK K
            refine wpAnyIn_ready (rs := [8]) (by kernel_rfl) (by simp) ?_
            refine AllReadyIn.cons rfl (fun K hK => ?_) ?_
            · go_simp
              refine hK _ _ ?_
              clear hK K
              refine wpAnyIn_ready (rs := [9]) (by kernel_rfl) (by simp) ?_
              refine AllReadyIn.cons rfl (fun K hK => ?_) ?_
              · go_simp
                refine hK _ _ ?_
                clear hK K
                refine wpAnyIn_ready (rs := [10]) (by kernel_rfl) (by simp) ?_
                refine AllReadyIn.cons rfl (fun K hK => ?_) ?_
                · go_simp
                  refine hK _ _ ?_
                  clear hK K
                  exact wpAnyIn_done (by kernel_rfl) ⟨rfl, rfl, rfl⟩ _
                exact AllReadyIn.nil
              exact AllReadyIn.nil
            exact AllReadyIn.nil
          exact AllReadyIn.nil
        exact AllReadyIn.nil
      refine AllReadyIn.cons rfl (fun K hK => ?_) ?_
      · go_simp
        refine hK _ _ ?_
        clear hK K
        refine wpAnyIn_take (i := 6) (v := .agg #[.int .u64 ((C (64 * x.1) : Nat) : Int), .slice none 0 0, .slice (some ⟨b, 128 * x.1, none⟩) ml ml, .pointer none]) hro rfl (by kernel_rfl) (by kernel_rfl) (by kernel_rfl) (fun _ _ _ h => by cases h.1) ⟨Or.inl ⟨by rfl, fun w => by go_simp⟩, fun _ => rfl⟩ ?_
        refine wpAnyIn_ready (rs := [0, 7]) (by kernel_rfl) (by simp) ?_
        refine AllReadyIn.cons rfl (fun K hK => ?_) ?_
        · go_simp
          refine hK _ _ ?_
          clear hK K
          refine wpAnyIn_ready (rs := [7]) (by kernel_rfl) (by simp) ?_
          refine AllReadyIn.cons rfl (fun K hK => ?_) ?_
          · go_simp
            refine hK _ _ ?_
            clear hK K
            refine wpAnyIn_ready (rs := [8]) (by kernel_rfl) (by simp) ?_
            refine AllReadyIn.cons rfl (fun K hK => ?_) ?_
            · go_simp
              refine hK _ _ ?_
              clear hK K
              refine wpAnyIn_ready (rs := [9]) (by kernel_rfl) (by simp) ?_
              refine AllReadyIn.cons rfl (fun K hK => ?_) ?_
              · go_simp
                refine hK _ _ ?_
                clear hK K
                refine wpAnyIn_ready (rs := [10]) (by kernel_rfl) (by simp) ?_
                refine AllReadyIn.cons rfl (fun K hK => ?_) ?_
                · go_simp
                  refine hK _ _ ?_
                  clear hK K
                  exact wpAnyIn_done (by kernel_rfl) ⟨rfl, rfl, rfl⟩ _
                exact AllReadyIn.nil
              exact AllReadyIn.nil
            exact AllReadyIn.nil
          exact AllReadyIn.nil
        refine AllReadyIn.cons rfl (fun K hK => ?_) ?_
        · go_simp
          refine hK _ _ ?_
          clear hK K
          refine wpAnyIn_ready (rs := [0, 8]) (by kernel_rfl) (by simp) ?_
          refine AllReadyIn.cons rfl (fun K hK => ?_) ?_
          · go_simp
            refine hK _ _ ?_
            clear hK K
            refine wpAnyIn_ready (rs := [8]) (by kernel_rfl) (by simp) ?_
            refine AllReadyIn.cons rfl (fun K hK => ?_) ?_
            · go_simp
              refine hK _ _ ?_
              clear hK K
              refine wpAnyIn_ready (rs := [9]) (by kernel_rfl) (by simp) ?_
              refine AllReadyIn.cons rfl (fun K hK => ?_) ?_
              · go_simp
                refine hK _ _ ?_
                clear hK K
                refine wpAnyIn_ready (rs := [10]) (by kernel_rfl) (by simp) ?_
                refine AllReadyIn.cons rfl (fun K hK => ?_) ?_
                · go_simp
                  refine hK _ _ ?_
                  clear hK K
                  exact wpAnyIn_done (by kernel_rfl) ⟨rfl, rfl, rfl⟩ _
                exact AllReadyIn.nil
              exact AllReadyIn.nil
            exact AllReadyIn.nil
          refine AllReadyIn.cons rfl (fun K hK => ?_) ?_
          · go_simp
            refine hK _ _ ?_
            clear hK K
            refine wpAnyIn_ready (rs := [0]) (by kernel_rfl) (by simp) ?_
            refine AllReadyIn.cons rfl (fun K hK => ?_) ?_
            · go_simp
              refine hK _ _ ?_
              clear hK K
              refine wpAnyIn_ready (rs := [9]) (by kernel_rfl) (by simp) ?_
              refine AllReadyIn.cons rfl (fun K hK => ?_) ?_
              · go_simp
                refine hK _ _ ?_
                clear hK K
                refine wpAnyIn_ready (rs := [10]) (by kernel_rfl) (by simp) ?_
                refine AllReadyIn.cons rfl (fun K hK => ?_) ?_
                · go_simp
                  refine hK _ _ ?_
                  clear hK K
                  exact wpAnyIn_done (by kernel_rfl) ⟨rfl, rfl, rfl⟩ _
                exact AllReadyIn.nil
              exact AllReadyIn.nil
            exact AllReadyIn.nil
          exact AllReadyIn.nil
        exact AllReadyIn.nil
      exact AllReadyIn.nil
    case cont =>
      rintro e a2 W2' ⟨rfl, rfl, rfl⟩
      generalize w1.setCell ⟨w.heap.size, 0, none⟩ (.slice (some ⟨g', 0, none⟩) (pre.length + 1) cap') = W2 at bL2 row2 hk2 hb2 hfr2 hnew2 ⊢
      have hc2 := bL2.cell
      clear hc1 hf1 hrun hcA hcX hWx hown hnw hxs hown1 hgrow1 hob1
      obtain ⟨b21, b22, hkp⟩ := inv_one hL b1 b2 hfr2
      by_cases hp : pre.length = 0
      · gi_wp2
        have hsn := leaves_snoc (NB := NB) x bL2 row2 (by simp) (fun i h => absurd h (by omega)) hnew2 (fun i h => absurd h (by omega)) (by have := b2.lt; omega) (fun i j hij hj => absurd hj (by omega)) (fun i h => absurd h (by omega))
        exact ⟨hk2.from _, hkp, ⟨_, _, hsn⟩, hB.trans hb2, b21, b22⟩
      · obtain ⟨q, hq⟩ : ∃ q, pre.length = q + 1 := ⟨pre.length - 1, by omega⟩
        have hlast := hL.node q (by omega)
        have hcq : W2.cell? ⟨g', q, none⟩ = some (.pointer (some ⟨NB q, 0, none⟩)) := row_cell row2 q _ (by rw [List.getElem?_append_left (by simp; omega), List.getElem?_map, List.getElem?_range (by omega)]; rfl)
        have hcq1 : W2.cell? ⟨g', q + 1, none⟩ = some (.pointer (some ⟨W.heap.size, 0, none⟩)) := row_cell row2 (q + 1) _ (by simp [hq])
        have hlast2 : LeafAt W2 (NB q) (C (64 * (pre[q]'(by omega)).1)) (piece b len (pre[q]'(by omega)).1) none := by
          rw [if_neg (by omega)] at hlast
          exact hlast.of_block (hfr2 _ hlast.lt (by have := hL.lo q (by omega); omega) (hlast.not_row hL.row))
        have hn3 := hlast2.c3
        have hf3 := hlast2.f3
        have hq3 : q < 16 := by omega
        have hwq : IntKind.i64.wrap (q : Int) = (q : Int) := wrap_i64_in _ (by omega) (by omega)
        have hq4 : (0 : Int) ≤ (q : Int) := by omega
        have hq5 : (q : Int) < (q : Int) + 1 + 1 := by omega
        have hq7 : (q : Int) < (q : Int) + 1 := by omega
        have hq6 : (0 : Int) ≤ (q : Int) + 1 := by omega
        gi_wp2
        refine Code.wpIn_mono (Q := fun e _ W3 => e = .normal ∧ W3 = W2.drew.setCell ⟨NB q, 3, none⟩ (.pointer (some ⟨W.heap.size, 0, none⟩))) ?cont2 (region_round hro (fun i o c h => by rcases i with _ | _ | _ | _ | _ | _ | _ | _ | _ | _ | _ | _ | i <;> simp at h <;> subst h <;> simp) hmix ?reg2)
        case reg2 =>
          refine wpAnyIn_take (i := 1) (v := ?_) hro rfl (by kernel_rfl) (by kernel_rfl) (by kernel_rfl) (fun _ _ _ h => by cases h.1) ⟨Or.inl ⟨by rfl, ?_⟩, fun _ => rfl⟩ ?_
          rotate_left
          · intro w; go_simp; try with_reducible rfl
          refine wpAnyIn_take (i := 2) (v := ?_) hro rfl (by kernel_rfl) (by kernel_rfl) (by kernel_rfl) (fun _ _ _ h => by cases h.1) ⟨Or.inl ⟨by rfl, ?_⟩, fun _ => rfl⟩ ?_
          rotate_left
          · intro w; go_simp; try with_reducible rfl
          refine wpAnyIn_take (i := 6) (v := ?_) hro rfl (by kernel_rfl) (by kernel_rfl) (by kernel_rfl) (fun _ _ _ h => by cases h.1) ⟨Or.inl ⟨by rfl, ?_⟩, fun _ => rfl⟩ ?_
          rotate_left
          · intro w; go_simp; try with_reducible rfl
          refine wpAnyIn_ready (rs := [0, 5]) (by kernel_rfl) (by simp) ?_
          refine AllReadyIn.cons rfl (fun K hK => ?_) ?_
          · go_simp
            refine hK _ _ ?_
            clear hK K
            refine wpAnyIn_take (i := 3) (v := ?_) hro rfl (by kernel_rfl) (by kernel_rfl) (by kernel_rfl) (fun _ _ _ h => by cases h.1) ⟨Or.inl ⟨by rfl, ?_⟩, fun _ => rfl⟩ ?_
            rotate_left
            · intro w; go_simp; try with_reducible rfl
            refine wpAnyIn_ready (rs := [4, 5]) (by kernel_rfl) (by simp) ?_
            refine AllReadyIn.cons rfl (fun K hK => ?_) ?_
            · go_simp
              refine hK _ _ ?_
              clear hK K
              refine wpAnyIn_ready (rs := [5]) (by kernel_rfl) (by simp) ?_
              refine AllReadyIn.cons rfl (fun K hK => ?_) ?_
              · go_simp
                refine hK _ _ ?_
                clear hK K
                refine wpAnyIn_take (i := 7) (v := ?_) hro rfl (by kernel_rfl) (by kernel_rfl) (by kernel_rfl) (fun _ _ _ h => by cases h.1) ⟨Or.inl ⟨by rfl, ?_⟩, fun _ => rfl⟩ ?_
                rotate_left
                · intro w; go_simp; try with_reducible rfl
                refine wpAnyIn_ready (rs := [8]) (by kernel_rfl) (by simp) ?_
                refine AllReadyIn.cons rfl (fun K hK => ?_) ?_
                · go_simp
                  refine hK _ _ ?_
                  clear hK K
                  refine wpAnyIn_take (i := 9) (v := ?_) hro rfl (by kernel_rfl) (by kernel_rfl) (by kernel_rfl) (fun _ _ _ h => by cases h.1) ⟨Or.inl ⟨by rfl, ?_⟩, fun _ => rfl⟩ ?_
                  rotate_left
                  · intro w; go_simp; try with_reducible rfl
                  refine wpAnyIn_take (i := 10) (v := ?_) hro rfl (by kernel_rfl) (by kernel_rfl) (by kernel_rfl) (fun _ _ _ h => by cases h.1) ⟨Or.inl ⟨by rfl, ?_⟩, fun _ => rfl⟩ ?_
                  rotate_left
                  · intro w; go_simp; try with_reducible rfl
                  refine wpAnyIn_ready (rs := [11]) (by kernel_rfl) (by simp) ?_
                  refine AllReadyIn.cons rfl (fun K hK => ?_) ?_
                  · go_simp
                    refine hK _ _ ?_
                    clear hK K
                    exact wpAnyIn_done (by kernel_rfl) ⟨rfl, rfl⟩ _
                  exact AllReadyIn.nil
                exact AllReadyIn.nil
              exact AllReadyIn.nil
            refine AllReadyIn.cons rfl (fun K hK => ?_) ?_
            · go_simp
              refine hK _ _ ?_
              clear hK K
              refine wpAnyIn_take (i := 7) (v := ?_) hro rfl (by kernel_rfl) (by kernel_rfl) (by kernel_rfl) (fun _ _ _ h => by cases h.1) ⟨Or.inl ⟨by rfl, ?_⟩, fun _ => rfl⟩ ?_
              rotate_left
              · intro w; go_simp; try with_reducible rfl
              refine wpAnyIn_ready (rs := [4, 8]) (by kernel_rfl) (by simp) ?_
              refine AllReadyIn.cons rfl (fun K hK => ?_) ?_
              · go_simp
                refine hK _ _ ?_
                clear hK K
                refine wpAnyIn_ready (rs := [8]) (by kernel_rfl) (by simp) ?_
                refine AllReadyIn.cons rfl (fun K hK => ?_) ?_
                · go_simp
                  refine hK _ _ ?_
                  clear hK K
                  refine wpAnyIn_take (i := 9) (v := ?_) hro rfl (by kernel_rfl) (by kernel_rfl) (by kernel_rfl) (fun _ _ _ h => by cases h.1) ⟨Or.inl ⟨by rfl, ?_⟩, fun _ => rfl⟩ ?_
                  rotate_left
                  · intro w; go_simp; try with_reducible rfl
                  refine wpAnyIn_take (i := 10) (v := ?_) hro rfl (by kernel_rfl) (by kernel_rfl) (by kernel_rfl) (fun _ _ _ h => by cases h.1) ⟨Or.inl ⟨by rfl, ?_⟩, fun _ => rfl⟩ ?_
                  rotate_left
                  · intro w; go_simp; try with_reducible rfl
                  refine wpAnyIn_ready (rs := [11]) (by kernel_rfl) (by simp) ?_
                  refine AllReadyIn.cons rfl (fun K hK => ?_) ?_
                  · go_simp
                    refine hK _ _ ?_
                    clear hK K
                    exact wpAnyIn_done (by kernel_rfl) ⟨rfl, rfl⟩ _
                  exact AllReadyIn.nil
                exact AllReadyIn.nil
              refine AllReadyIn.cons rfl (fun K hK => ?_) ?_
              · go_simp
                refine hK _ _ ?_
                clear hK K
                refine wpAnyIn_ready (rs := [4]) (by kernel_rfl) (by simp) ?_
                refine AllReadyIn.cons rfl (fun K hK => ?_) ?_
                · go_simp
                  refine hK _ _ ?_
                  clear hK K
                  refine wpAnyIn_take (i := 9) (v := ?_) hro rfl (by kernel_rfl) (by kernel_rfl) (by kernel_rfl) (fun _ _ _ h => by cases h.1) ⟨Or.inl ⟨by rfl, ?_⟩, fun _ => rfl⟩ ?_
                  rotate_left
                  · intro w; go_simp; try with_reducible rfl
                  refine wpAnyIn_take (i := 10) (v := ?_) hro rfl (by kernel_rfl) (by kernel_rfl) (by kernel_rfl) (fun _ _ _ h => by cases h.1) ⟨Or.inl ⟨by rfl, ?_⟩, fun _ => rfl⟩ ?_
                  rotate_left
                  · intro w; go_simp; try with_reducible rfl
                  refine wpAnyIn_ready (rs := [11]) (by kernel_rfl) (by simp) ?_
                  refine AllReadyIn.cons rfl (fun K hK => ?_) ?_
                  · go_simp
                    refine hK _ _ ?_
                    clear hK K
                    exact wpAnyIn_done (by kernel_rfl) ⟨rfl, rfl⟩ _
                  exact AllReadyIn.nil
                exact AllReadyIn.nil
              exact AllReadyIn.nil
            exact AllReadyIn.nil
          refine AllReadyIn.cons rfl (fun K hK => ?_) ?_
          · go_simp
            refine hK _ _ ?_
            clear hK K
            refine wpAnyIn_take (i := 7) (v := ?_) hro rfl (by kernel_rfl) (by kernel_rfl) (by kernel_rfl) (fun _ _ _ h => by cases h.1) ⟨Or.inl ⟨by rfl, ?_⟩, fun _ => rfl⟩ ?_
            rotate_left
            · intro w; go_simp; try with_reducible rfl
            refine wpAnyIn_ready (rs := [0, 8]) (by kernel_rfl) (by simp) ?_
            refine AllReadyIn.cons rfl (fun K hK => ?_) ?_
            · go_simp
              refine hK _ _ ?_
              clear hK K
              refine wpAnyIn_take (i := 3) (v := ?_) hro rfl (by kernel_rfl) (by kernel_rfl) (by kernel_rfl) (fun _ _ _ h => by cases h.1) ⟨Or.inl ⟨by rfl, ?_⟩, fun _ => rfl⟩ ?_
              rotate_left
              · intro w; go_simp; try with_reducible rfl
              refine wpAnyIn_ready (rs := [4, 8]) (by kernel_rfl) (by simp) ?_
              refine AllReadyIn.cons rfl (fun K hK => ?_) ?_
              · go_simp
                refine hK _ _ ?_
                clear hK K
                refine wpAnyIn_ready (rs := [8]) (by kernel_rfl) (by simp) ?_
                refine AllReadyIn.cons rfl (fun K hK => ?_) ?_
                · go_simp
                  refine hK _ _ ?_
                  clear hK K
                  refine wpAnyIn_take (i := 9) (v := ?_) hro rfl (by kernel_rfl) (by kernel_rfl) (by kernel_rfl) (fun _ _ _ h => by cases h.1) ⟨Or.inl ⟨by rfl, ?_⟩, fun _ => rfl⟩ ?_
                  rotate_left
                  · intro w; go_simp; try with_reducible rfl
                  refine wpAnyIn_take (i := 10) (v := ?_) hro rfl (by kernel_rfl) (by kernel_rfl) (by kernel_rfl) (fun _ _ _ h => by cases h.1) ⟨Or.inl ⟨by rfl, ?_⟩, fun _ => rfl⟩ ?_
                  rotate_left
                  · intro w; go_simp; try with_reducible rfl
                  refine wpAnyIn_ready (rs := [11]) (by kernel_rfl) (by simp) ?_
                  refine AllReadyIn.cons rfl (fun K hK => ?_) ?_
                  · go_simp
                    refine hK _ _ ?_
                    clear hK K
                    exact wpAnyIn_done (by kernel_rfl) ⟨rfl, rfl⟩ _
                  exact AllReadyIn.nil
                exact AllReadyIn.nil
              refine AllReadyIn.cons rfl (fun K hK => ?_) ?_
              · go_simp
                refine hK _ _ ?_
                clear hK K
                refine wpAnyIn_ready (rs := [4]) (by kernel_rfl) (by simp) ?_
                refine AllReadyIn.cons rfl (fun K hK => ?_) ?_
                · go_simp
                  refine hK _ _ ?_
                  clear hK K
                  refine wpAnyIn_take (i := 9) (v := ?_) hro rfl (by kernel_rfl) (by kernel_rfl) (by kernel_rfl) (fun _ _ _ h => by cases h.1) ⟨Or.inl ⟨by rfl, ?_⟩, fun _ => rfl⟩ ?_
                  rotate_left
                  · intro w; go_simp; try with_reducible rfl
                  refine wpAnyIn_take (i := 10) (v := ?_) hro rfl (by kernel_rfl) (by kernel_rfl) (by kernel_rfl) (fun _ _ _ h => by cases h.1) ⟨Or.inl ⟨by rfl, ?_⟩, fun _ => rfl⟩ ?_
                  rotate_left
                  · intro w; go_simp; try with_reducible rfl
                  refine wpAnyIn_ready (rs := [11]) (by kernel_rfl) (by simp) ?_
                  refine AllReadyIn.cons rfl (fun K hK => ?_) ?_
                  · go_simp
                    refine hK _ _ ?_
                    clear hK K
                    exact wpAnyIn_done (by kernel_rfl) ⟨rfl, rfl⟩ _
                  exact AllReadyIn.nil
                exact AllReadyIn.nil
              exact AllReadyIn.nil
            refine AllReadyIn.cons rfl (fun K hK => ?_) ?_
            · go_simp
              refine hK _ _ ?_
              clear hK K
              refine wpAnyIn_ready (rs := [0]) (by kernel_rfl) (by simp) ?_
              refine AllReadyIn.cons rfl (fun K hK => ?_) ?_
              · go_simp
                refine hK _ _ ?_
                clear hK K
                refine wpAnyIn_take (i := 3) (v := ?_) hro rfl (by kernel_rfl) (by kernel_rfl) (by kernel_rfl) (fun _ _ _ h => by cases h.1) ⟨Or.inl ⟨by rfl, ?_⟩, fun _ => rfl⟩ ?_
                rotate_left
                · intro w; go_simp; try with_reducible rfl
                refine wpAnyIn_ready (rs := [4]) (by kernel_rfl) (by simp) ?_
                refine AllReadyIn.cons rfl (fun K hK => ?_) ?_
                · go_simp
                  refine hK _ _ ?_
                  clear hK K
                  refine wpAnyIn_take (i := 9) (v := ?_) hro rfl (by kernel_rfl) (by kernel_rfl) (by kernel_rfl) (fun _ _ _ h => by cases h.1) ⟨Or.inl ⟨by rfl, ?_⟩, fun _ => rfl⟩ ?_
                  rotate_left
                  · intro w; go_simp; try with_reducible rfl
                  refine wpAnyIn_take (i := 10) (v := ?_) hro rfl (by kernel_rfl) (by kernel_rfl) (by kernel_rfl) (fun _ _ _ h => by cases h.1) ⟨Or.inl ⟨by rfl, ?_⟩, fun _ => rfl⟩ ?_
                  rotate_left
                  · intro w; go_simp; try with_reducible rfl
                  refine wpAnyIn_ready (rs := [11]) (by kernel_rfl) (by simp) ?_
                  refine AllReadyIn.cons rfl (fun K hK => ?_) ?_
                  · go_simp
                    refine hK _ _ ?_
                    clear hK K
                    exact wpAnyIn_done (by kernel_rfl) ⟨rfl, rfl⟩ _
                  exact AllReadyIn.nil
                exact AllReadyIn.nil
              exact AllReadyIn.nil
            exact AllReadyIn.nil
          exact AllReadyIn.nil
        case cont2 =>
          rintro e a3 W3 ⟨rfl, rfl⟩
          gi_wp2
          exact inv_more x hL hB b1 b2 hfr2 bL2 row2 (by simp) hk2 hb2 hnew2 q hq _
  case done =>
    rintro D ys W hD rfl ⟨⟨v, NB, hL⟩, hB, b1, b2⟩ hK
    have hlen' : (pieces N N (Nat.le_refl _)).length = N := pieces_length N N _
    have hNp : 1 ≤ N := by omega
    obtain ⟨m, hm⟩ : ∃ m, N = m + 1 := ⟨N - 1, by omega⟩
    have hrow := hL.row
    rw [hlen'] at hrow
    obtain ⟨g, cap, rfl⟩ : ∃ g cap, v = .slice (some ⟨g, 0, none⟩) N cap := by
      rw [hm] at hrow ⊢
      exact ownsRow_succ hrow
    have hN16 : N ≤ 16 := by omega
    clear hm
    have hnode : ∀ i, i < N → LeafAt W (NB i) (C (64 * i)) (piece b len i) (if i + 1 < N then some ⟨NB (i + 1), 0, none⟩ else none) := fun i h => by
      have := hL.node i (by omega)
      have e : ((pieces N N (Nat.le_refl _))[i]'(by omega)).1 = i := by simp [pieces]
      rw [e] at this
      rw [hlen'] at this
      exact this
    have hwW := hB.size
    obtain ⟨hgl, hcap⟩ : g < W.heap.size ∧ N ≤ cap := by
      rcases hrow.2 with ⟨h0, _⟩ | ⟨g', cap', cur, h0, _, h2, h3, _⟩
      · cases h0
      · cases h0
        exact ⟨(Array.getElem?_eq_some_iff.1 h2).1, h3⟩
    obtain ⟨W1, hW1⟩ : ∃ W1, W.alloc (.cells #[.pointer none, .pointer none, .pointer none] 68) = W1 := ⟨_, rfl⟩
    have hsz1 : W1.heap.size = W.heap.size + 1 := by rw [← hW1]; simp
    have hX1 : W1.heap[W.heap.size]? = some (.cells #[.pointer none, .pointer none, .pointer none] 68 (0, 0)) := by rw [← hW1]; exact World.alloc_heap_new W _
    have hold1 : ∀ B, B < W.heap.size → W1.heap[B]? = W.heap[B]? := fun B h => by rw [← hW1]; exact Below.heap_alloc _ _ _ h
    have hc : W1.cell? ⟨w.heap.size, 0, none⟩ = some (.slice (some ⟨g, 0, none⟩) N cap) := by rw [← hW1]; exact (hL.box.alloc _).cell
    have hkid : ∀ i, i < N → W1.cell? ⟨g, i, none⟩ = some (.pointer (some ⟨NB i, 0, none⟩)) := fun i h => by
      have := row_cell hrow i (.pointer (some ⟨NB i, 0, none⟩)) (by rw [List.getElem?_map, List.getElem?_range h]; rfl)
      rw [World.cell?_of_block (hold1 g hgl)]
      exact this
    have hl0 : LeafAt W1 (NB 0) (C (64 * 0)) (piece b len 0) (if 0 + 1 < N then some ⟨NB (0 + 1), 0, none⟩ else none) := (hnode 0 hNp).of_block (hold1 _ (hnode 0 hNp).lt)
    have hcall := h11 g N cap NB (C 0) W1 hNp hN16 hcap (by omega) hl0.lt hkid hl0.c0
    clear hN
    gi_wp2_with (gi_at_call 11; refine hcall.mono ?_; rintro e W2 ⟨RB, rfl, hb2, hroot⟩; have hX2 : W2.heap[W.heap.size]? = some (.cells #[.pointer none, .pointer none, .pointer none] 68 (0, 0)) := (hb2.block _ (by omega)).trans hX1; have hf2 : W2.frozen? ⟨W.heap.size, 0, none⟩ = false := (by simp [World.frozen?, hX2]); have hc2 : W2.cell? ⟨W.heap.size, 0, none⟩ = some (.pointer none) := (by simp [World.cell?, hX2]))
    have hlD := (Array.getElem?_eq_some_iff.1 hK).1
    have hK3 : (W2.setCell ⟨W.heap.size, 0, none⟩ (.pointer (some ⟨RB, 0, none⟩))).heap[D]? = some (Obj.deferred (some [])) := by
      rw [Below.heap_setCell _ _ _ D (by show D ≠ W.heap.size; omega), hb2.block D (by omega), hold1 D hlD]
      exact hK
    refine ⟨by simp, .inl ⟨_, _, rfl, run_takeDeferred hK3, ?_⟩⟩
    refine ⟨_, results_tmp rfl _ _ _, W.heap.size, NB, RB, g, rfl, ?_, by omega, ?_⟩
    · exact (((hB.trans (by rw [← hW1]; exact (Below.refl _ W).alloc hwW _ : Below w.heap.size W W1)).trans (hb2.mono (by omega))).setCell (by show w.heap.size ≤ W.heap.size; omega) _).grown (grownBy_putObj' _ D _) (by have := hb2.size; simp; omega) (fun k e => by cases e; omega)
    · have hs2 := hb2.size
      have hK2 : W2.heap[D]? = some (Obj.deferred (some [])) := by rw [hb2.block D (by omega), hold1 D hlD]; exact hK
      have hX3 : (W2.setCell ⟨W.heap.size, 0, none⟩ (.pointer (some ⟨RB, 0, none⟩))).heap[W.heap.size]? = some (.cells #[.pointer (some ⟨RB, 0, none⟩), .pointer none, .pointer none] 68 (0, 0)) := by
        obtain ⟨hlt, hk⟩ := Array.getElem?_eq_some_iff.1 hX2
        show (W2.heap.modify W.heap.size _)[W.heap.size]? = _
        rw [Array.getElem?_eq_getElem (by rw [Array.size_modify]; exact hlt), Array.getElem_modify_self, hk]
        rfl
      have hblk : ∀ B, B < W2.heap.size → B ≠ W.heap.size → B ≠ D → ((W2.setCell ⟨W.heap.size, 0, none⟩ (.pointer (some ⟨RB, 0, none⟩))).putObj D (Obj.deferred none)).heap[B]? = W2.heap[B]? := fun B h1 h2 h3 => by
        rw [(grownBy_putObj' (W2.setCell ⟨W.heap.size, 0, none⟩ (.pointer (some ⟨RB, 0, none⟩))) D (Obj.deferred none)).block B (by simpa using h1) (by simpa using h3)]
        exact Below.heap_setCell _ _ _ B h2
      have hX4 : ((W2.setCell ⟨W.heap.size, 0, none⟩ (.pointer (some ⟨RB, 0, none⟩))).putObj D (Obj.deferred none)).heap[W.heap.size]? = some (.cells #[.pointer (some ⟨RB, 0, none⟩), .pointer none, .pointer none] 68 (0, 0)) := by
        rw [(grownBy_putObj' (W2.setCell ⟨W.heap.size, 0, none⟩ (.pointer (some ⟨RB, 0, none⟩))) D (Obj.deferred none)).block W.heap.size (by simp; omega) (by simp; omega)]
        exact hX3
      have hsz4 : ((W2.setCell ⟨W.heap.size, 0, none⟩ (.pointer (some ⟨RB, 0, none⟩))).putObj D (Obj.deferred none)).heap.size = W2.heap.size := by simp [World.putObj]
      generalize ((W2.setCell ⟨W.heap.size, 0, none⟩ (.pointer (some ⟨RB, 0, none⟩))).putObj D (Obj.deferred none)) = W4 at hblk hX4 hsz4 ⊢
      have hnot : ∀ B c t f, W.heap[B]? = some (.cells c t f) → B ≠ D := fun B c t f h e => by
        rw [e, hK] at h
        cases h
      have hgD : g ≠ D := by
        rcases hrow.2 with ⟨h0, _⟩ | ⟨g', cap', cur, h0, _, h2, h3, _⟩
        · cases h0
        · cases h0
          exact hnot _ _ _ _ h2
      have hin : ∀ i, i < N → LeafAt W4 (NB i) (C (64 * i)) (piece b len i) (if i + 1 < N then some ⟨NB (i + 1), 0, none⟩ else none) := fun i h => by
        have := (hnode i h).lt
        exact (hnode i h).of_block ((hblk _ (by omega) (by omega) (hnot _ _ _ _ (hnode i h))).trans ((hb2.block _ (by omega)).trans (hold1 _ this)))
      refine ⟨hX4, hin, ?_, fun i h => ?_, by omega, by omega, by omega, by omega, fun i h => ?_, fun i h => (by cases h), fun i h => (by cases h)⟩
      · rcases hroot with h | ⟨h1, h2, h3⟩
        · exact .inl h
        · refine .inr ⟨h1, (hblk _ h3.lt (by omega) (by omega)).trans h3⟩
      · rw [World.cell?_of_block (hblk g (by omega) (by omega) hgD), hb2.cell (p := ⟨g, i, none⟩) (by show g < W1.heap.size; omega)]
        exact hkid i h
      · have e : ∀ k, W4.cell? ⟨b, k, none⟩ = w.cell? ⟨b, k, none⟩ := fun k => by
          rw [World.cell?_of_block (hblk b (by omega) (by omega) (by omega)), hb2.cell (p := ⟨b, k, none⟩) (by show b < W1.heap.size; omega), World.cell?_of_block (hold1 b (by omega))]
          exact hB.cell (p := ⟨b, k, none⟩) hb
        rw [e, e]
        exact hst i h
  case stop =>
    rintro D c pre W _ _ h _
    exact h.elim

end Go.Proofs.Ybulkaswg

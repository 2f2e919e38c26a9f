/-
  LawS2216BStepFrom (5): the walk where the map is there, case C (A: the replica has an extent; B: it is one of the three and has none; C: it is the fourth).
-/
import Derived.Test.YbulkaswgStepParts
import Derived.Deep.RegionHeld3
namespace Go.Proofs.Ybulkaswg
open Go.RowKit Go.Maps

set_option maxRecDepth 100000 in
set_option maxHeartbeats 1000000 in
theorem step_C1 (c i p r l d : Int) (hs : Nat → Bool) (el ei : Nat → Int) (w : World) (hr : 0 ≤ r ∧ r ≤ 255) (j : Nat) (hj : r % 4 = (j : Int)) (hj4 : j < 4) (h3 : 3 ≤ j) (hcl' : c < l) :
    Calls Yba.prog 5 #[.int .u64 c, .int .u64 i, .int .u64 p, .bool false, .agg #[.bool (hs 0), .bool (hs 1), .bool (hs 2)], .agg #[.int .u64 (el 0), .int .u64 (ei 0), .int .u64 (el 1), .int .u64 (ei 1), .int .u64 (el 2), .int .u64 (ei 2)], .int .u8 r, .int .u64 l, .int .u64 d] w fun e w' => e = .returned (.bool true) ∧ Below w.heap.size w w' := by
  have hmm := @run_makeMap Yba.prog
  go_enter Yba.func5, Yba.ntmps5
  go_wp2_with fail
  go_loopw [20, 21] (fun n k wr => ∃ q : Nat, q ≤ 3 ∧ k = .int .i64 q ∧ n = .int .i64 (cF hs q) ∧ J w c i p hs el ei q wr) (fun _ k _ => 3 - (intOf k).toNat)
  case atStart => exact ⟨0, by omega, rfl, rfl, J_start w c i p hs el ei⟩
  case round =>
    obtain ⟨q, hq, rfl, rfl, hJ⟩ := hrel
    have hcl := cF_le hs q
    by_cases hlt : q < 3
    · have hc := has_cells hJ.has q hlt
      cases hh : hs q with
      | false =>
        rw [hh] at hc
        have HJ := hide hJ
        clear hJ
        go_wp2_with fail
        go_light
        go_roundw
        case rel => exact ⟨q + 1, by omega, by go_num, by simp only [cF, hh, Bool.false_eq_true, if_false], J_skip HJ.out hh⟩
        case measure => simp [intOf]; omega
      | true =>
        rw [hh] at hc
        obtain ⟨x0, x1⟩ := ex_cells hJ.ext q hlt
        obtain ⟨c0, c1, c2, c3, _, _, _, _⟩ := tally_cells hJ.tal
        have hT : Tab wr.drew (w.heap.size + 3) (F hs el ei q) (cF hs q) := hJ.tab
        obtain ⟨es, clock, hupd, hTab⟩ := hT.store (by unfold maxLen; omega) (nameOf q) (nameOf_le _) (el q, ei q)
        obtain ⟨W2, hW2⟩ : ∃ W2, W2 = ChangeMaps.setBlock wr.drew (w.heap.size + 3) (.map es clock) := ⟨_, rfl⟩
        rw [← hW2] at hupd
        have hJ2 := J_step hJ hlt hh hTab hW2
        obtain ⟨y0, y1⟩ := ex_cells hJ2.ext q hlt
        obtain ⟨_, _, _, y3, _, _, _, _⟩ := tally_cells hJ2.tal
        have HJ := hide hJ2
        unfold extV at hupd
        clear hJ hJ2 hT hTab hW2
        go_wp2_with fail
        go_region_held3 (fun W => W.cell? ⟨w.heap.size + 1 + 1, 3, none⟩ = some (.map (some (w.heap.size + 1 + 1 + 1))) ∧ W.cell? ⟨w.heap.size + 1, q * 2, none⟩ = some (.int .u64 (el q)) ∧ W.cell? ⟨w.heap.size + 1, q * 2 + 1, none⟩ = some (.int .u64 (ei q))) (go_keep)
          (first | (go_at_call 9; refine (name_any _ _).mono ?_; rintro e w' ⟨rfl, rfl⟩))
        go_wp2_with fail
        go_light
        go_roundw
        case rel => exact ⟨q + 1, by omega, by go_num, by simp only [cF, hh, if_true]; go_num, HJ.out⟩
        case measure => simp [intOf]; omega
    · have hqe : q = 3 := by omega
      subst hqe
      have hs4 := hJ.siz
      have HJ := hide hJ
      clear hJ
      go_wp2_with (go_at_call 9; refine (name_any _ _).mono ?_; rintro e wn ⟨rfl, rfl⟩)
      refine (cover_some _ _ c i p l d _ _ _ _ ((Below.heap_alloc _ _ _ (by omega)).trans HJ.out.tal) (HJ.out.tab.of_block (Below.heap_alloc _ _ _ (by omega))) (nameOf_le _) (by unfold maxLen; omega)).mono ?_
      rintro e w2 ⟨rfl, hB2, hT2, hF2⟩
      obtain ⟨k1, k2, k3, k4, k5⟩ := J_cover HJ.out hF2
      have hlook := hT2.look_ok (nameOf j) (nameOf_le _)
      rw [put_same] at hlook
      simp only [extV, Option.getD_some, Option.isSome_some] at hlook
      have hneq := neq40
      obtain ⟨b0, b1⟩ := box_cells k3
      have hw2 : w.heap.size + 4 < w2.heap.size := by omega
      have K1 := hide k1
      have K2 := hide k2
      have K4 := hide k4
      have hF3 : F hs el ei 3 (nm j) = none := F_ge hs el ei 3 (by omega) j (by omega) hj4
      have ho : idsBy i d ((F hs el ei 3 (nameOf (j : Int)).data.toList).getD (0, 0)).2 = IntKind.u64.wrap (IntKind.u64.wrap (i + d)) := by
        rw [show (nameOf (j : Int)).data.toList = nm j from rfl, hF3]
        exact idsBy_eq0 i d
      rw [ho] at hB2
      have KT := hide hT2
      rw [show (nameOf (j : Int)).data.toList = nm j from rfl, hF3, if_neg (show ¬ (none : Option (Int × Int)).isSome = true from by decide)] at KT
      rw [show clockBy c l = l from if_pos hcl'] at hB2
      obtain ⟨c0, c1, c2, c3, _, _, _, _⟩ := tally_cells hB2
      have c02 := cell2 c0 (.cells #[.int .u64 l, .int .u64 d] 40) (.cells #[.int .u64 0, .int .u64 0] 40)
      have c12 := cell2 c1 (.cells #[.int .u64 l, .int .u64 d] 40) (.cells #[.int .u64 0, .int .u64 0] 40)
      have c22 := cell2 c2 (.cells #[.int .u64 l, .int .u64 d] 40) (.cells #[.int .u64 0, .int .u64 0] 40)
      clear hB2 hT2 hF2 k1 k2 k3 k4 HJ hF3 ho
      go_wp2_with fail
      have hW3 : Below w2.heap.size w2 ((w2.alloc (.cells #[.int .u64 l, .int .u64 d] 40)).alloc (.cells #[.int .u64 0, .int .u64 0] 40)) := ((Below.refl _ _).alloc (Nat.le_refl _) _).alloc (by rw [World.size_alloc]; omega) _
      generalize (w2.alloc (.cells #[.int .u64 l, .int .u64 d] 40)).alloc (.cells #[.int .u64 0, .int .u64 0] 40) = W3 at hW3 ⊢
      clear c0 c1 c2 b0 b1 hlook c02 c12 c22
      have hcell : ∀ W, Below w2.heap.size w2 W → W.cell? ⟨w.heap.size + 1 + 1, 3, none⟩ = some (.map (some (w.heap.size + 1 + 1 + 1))) := fun W hW => (hW.cell (p := ⟨w.heap.size + 1 + 1, 3, none⟩) (by show w.heap.size + 1 + 1 < _; omega)).trans c3
      go_loopw [30] (fun k wr => ∃ q : Nat, q ≤ 3 ∧ k = .int .i64 q ∧ Below w2.heap.size w2 wr) (fun k _ => 3 - (intOf k).toNat)
      case atStart => exact ⟨0, by omega, rfl, hW3⟩
      case round =>
        obtain ⟨q, hq', rfl, hbel⟩ := hrel
        by_cases hq3 : q < 3
        · by_cases hqj : q = j
          · omega
          · have hb : ((q : Int) == (j : Int)) = false := by simp; omega
            have hz := hbel.size
            have hput : put (F hs el ei 3) (nm j) (l, d) (nm q) = if hs q then some (el q, ei q) else none := by rw [put_nm _ q j (by omega) hj4, if_neg hqj]; exact F_lt hs el ei 3 (by omega) q hq3
            have hlk0 : ∀ W, Below w2.heap.size w2 W → (Instr.lookup 36 (.map (some (w.heap.size + 1 + 1 + 1))) (.string (nameOf q)) true).run Yba.prog W = .ok (.tuple #[extV ((if hs q then some (el q, ei q) else none).getD (0, 0)), .bool (if hs q then some (el q, ei q) else none).isSome]) W := by
              intro W hW
              have hT := KT.out.of_block (hW.block _ (by omega))
              have := hT.look_ok (nameOf q) (nameOf_le _)
              rw [show (nameOf (q : Int)).data.toList = nm q from rfl, hput] at this
              exact this
            have hc0 := has_cells ((hbel.block _ (by omega)).trans K1.out) q hq3
            obtain ⟨z0, z1⟩ := ex_cells ((hbel.block _ (by omega)).trans K2.out) q hq3
            cases hqv : hs q with
            | true =>
              have hlk : ∀ W, Below w2.heap.size w2 W → (Instr.lookup 36 (.map (some (w.heap.size + 1 + 1 + 1))) (.string (nameOf q)) true).run Yba.prog W = .ok (.tuple #[.agg #[.int .u64 (el q), .int .u64 (ei q)], .bool true]) W := by
                intro W hW
                have := hlk0 W hW
                rw [hqv] at this
                exact this
              rw [hqv] at hc0
              clear hlk0 hput
              go_wp2_with fail
              go_region_held3 (fun W => Below w2.heap.size w2 W) (first | exact hbel.drew | exact (hbel.alloc hbel.size _).drew | exact hbel.alloc hbel.size _) (first | (go_at_call 9; refine (name_any _ _).mono ?_; rintro e w' ⟨rfl, rfl⟩))
              all_goals
                generalize hW4 : (wr.alloc (.cells #[.int .u64 (el q), .int .u64 (ei q)] 40)).drew = W4
                obtain ⟨y1, y2, y3⟩ := got_world hW4
                obtain ⟨g0, g1⟩ := box_cells y1
                have z0' := (World.cell?_of_block (w := wr) (y2 (w.heap.size + 1) (by omega))).trans z0
                have z1' := (World.cell?_of_block (w := wr) (y2 (w.heap.size + 1) (by omega))).trans z1
                have hc0' := (World.cell?_of_block (w := wr) (y2 (w.heap.size) (by omega))).trans hc0
                have hb4 := hide (hbel.trans (y3.mono hbel.size))
                clear hW4 y1 y2 y3 hlk z0 z1 hc0 hcell
                go_wp2_with fail
                go_quiet (fail)
                go_wp2_with fail
                go_light
                go_roundw
                case rel => exact ⟨q + 1, by omega, by go_num, below_drewN hb4.out _⟩
                case measure => simp [intOf]; omega
            | false =>
              have hlk : ∀ W, Below w2.heap.size w2 W → (Instr.lookup 36 (.map (some (w.heap.size + 1 + 1 + 1))) (.string (nameOf q)) true).run Yba.prog W = .ok (.tuple #[.agg #[.int .u64 0, .int .u64 0], .bool false]) W := by
                intro W hW
                have := hlk0 W hW
                rw [hqv] at this
                exact this
              rw [hqv] at hc0
              clear hlk0 hput
              go_wp2_with fail
              go_region_held3 (fun W => Below w2.heap.size w2 W) (first | exact hbel.drew | exact (hbel.alloc hbel.size _).drew | exact hbel.alloc hbel.size _) (first | (go_at_call 9; refine (name_any _ _).mono ?_; rintro e w' ⟨rfl, rfl⟩))
              all_goals
                generalize hW4 : (wr.alloc (.cells #[.int .u64 0, .int .u64 0] 40)).drew = W4
                obtain ⟨y1, y2, y3⟩ := got_world hW4
                obtain ⟨g0, g1⟩ := box_cells y1
                have z0' := (World.cell?_of_block (w := wr) (y2 (w.heap.size + 1) (by omega))).trans z0
                have z1' := (World.cell?_of_block (w := wr) (y2 (w.heap.size + 1) (by omega))).trans z1
                have hc0' := (World.cell?_of_block (w := wr) (y2 (w.heap.size) (by omega))).trans hc0
                have hb4 := hide (hbel.trans (y3.mono hbel.size))
                clear hW4 y1 y2 y3 hlk z0 z1 hc0 hcell
                go_wp2_with fail
                go_quiet (fail)
                go_wp2_with fail
                go_light
                go_roundw
                case rel => exact ⟨q + 1, by omega, by go_num, below_drewN hb4.out _⟩
                case measure => simp [intOf]; omega
        · have hqe : q = 3 := by omega
          subst hqe
          have hT := KT.out.of_block (hbel.block _ (by omega))
          have hlen := hT.len 3
          have hc3 := hcell wr hbel
          have hfin := hide (K4.out.trans (hbel.mono (by omega)))
          clear hT hcell hbel
          go_wp2_with fail
          go_ret
          exact ⟨rfl, hfin.out⟩

set_option maxRecDepth 100000 in
set_option maxHeartbeats 1000000 in
theorem step_C2 (c i p r l d : Int) (hs : Nat → Bool) (el ei : Nat → Int) (w : World) (hr : 0 ≤ r ∧ r ≤ 255) (j : Nat) (hj : r % 4 = (j : Int)) (hj4 : j < 4) (h3 : 3 ≤ j) (hcl' : l ≤ c) :
    Calls Yba.prog 5 #[.int .u64 c, .int .u64 i, .int .u64 p, .bool false, .agg #[.bool (hs 0), .bool (hs 1), .bool (hs 2)], .agg #[.int .u64 (el 0), .int .u64 (ei 0), .int .u64 (el 1), .int .u64 (ei 1), .int .u64 (el 2), .int .u64 (ei 2)], .int .u8 r, .int .u64 l, .int .u64 d] w fun e w' => e = .returned (.bool true) ∧ Below w.heap.size w w' := by
  have hmm := @run_makeMap Yba.prog
  go_enter Yba.func5, Yba.ntmps5
  go_wp2_with fail
  go_loopw [20, 21] (fun n k wr => ∃ q : Nat, q ≤ 3 ∧ k = .int .i64 q ∧ n = .int .i64 (cF hs q) ∧ J w c i p hs el ei q wr) (fun _ k _ => 3 - (intOf k).toNat)
  case atStart => exact ⟨0, by omega, rfl, rfl, J_start w c i p hs el ei⟩
  case round =>
    obtain ⟨q, hq, rfl, rfl, hJ⟩ := hrel
    have hcl := cF_le hs q
    by_cases hlt : q < 3
    · have hc := has_cells hJ.has q hlt
      cases hh : hs q with
      | false =>
        rw [hh] at hc
        have HJ := hide hJ
        clear hJ
        go_wp2_with fail
        go_light
        go_roundw
        case rel => exact ⟨q + 1, by omega, by go_num, by simp only [cF, hh, Bool.false_eq_true, if_false], J_skip HJ.out hh⟩
        case measure => simp [intOf]; omega
      | true =>
        rw [hh] at hc
        obtain ⟨x0, x1⟩ := ex_cells hJ.ext q hlt
        obtain ⟨c0, c1, c2, c3, _, _, _, _⟩ := tally_cells hJ.tal
        have hT : Tab wr.drew (w.heap.size + 3) (F hs el ei q) (cF hs q) := hJ.tab
        obtain ⟨es, clock, hupd, hTab⟩ := hT.store (by unfold maxLen; omega) (nameOf q) (nameOf_le _) (el q, ei q)
        obtain ⟨W2, hW2⟩ : ∃ W2, W2 = ChangeMaps.setBlock wr.drew (w.heap.size + 3) (.map es clock) := ⟨_, rfl⟩
        rw [← hW2] at hupd
        have hJ2 := J_step hJ hlt hh hTab hW2
        obtain ⟨y0, y1⟩ := ex_cells hJ2.ext q hlt
        obtain ⟨_, _, _, y3, _, _, _, _⟩ := tally_cells hJ2.tal
        have HJ := hide hJ2
        unfold extV at hupd
        clear hJ hJ2 hT hTab hW2
        go_wp2_with fail
        go_region_held3 (fun W => W.cell? ⟨w.heap.size + 1 + 1, 3, none⟩ = some (.map (some (w.heap.size + 1 + 1 + 1))) ∧ W.cell? ⟨w.heap.size + 1, q * 2, none⟩ = some (.int .u64 (el q)) ∧ W.cell? ⟨w.heap.size + 1, q * 2 + 1, none⟩ = some (.int .u64 (ei q))) (go_keep)
          (first | (go_at_call 9; refine (name_any _ _).mono ?_; rintro e w' ⟨rfl, rfl⟩))
        go_wp2_with fail
        go_light
        go_roundw
        case rel => exact ⟨q + 1, by omega, by go_num, by simp only [cF, hh, if_true]; go_num, HJ.out⟩
        case measure => simp [intOf]; omega
    · have hqe : q = 3 := by omega
      subst hqe
      have hs4 := hJ.siz
      have HJ := hide hJ
      clear hJ
      go_wp2_with (go_at_call 9; refine (name_any _ _).mono ?_; rintro e wn ⟨rfl, rfl⟩)
      refine (cover_some _ _ c i p l d _ _ _ _ ((Below.heap_alloc _ _ _ (by omega)).trans HJ.out.tal) (HJ.out.tab.of_block (Below.heap_alloc _ _ _ (by omega))) (nameOf_le _) (by unfold maxLen; omega)).mono ?_
      rintro e w2 ⟨rfl, hB2, hT2, hF2⟩
      obtain ⟨k1, k2, k3, k4, k5⟩ := J_cover HJ.out hF2
      have hlook := hT2.look_ok (nameOf j) (nameOf_le _)
      rw [put_same] at hlook
      simp only [extV, Option.getD_some, Option.isSome_some] at hlook
      have hneq := neq40
      obtain ⟨b0, b1⟩ := box_cells k3
      have hw2 : w.heap.size + 4 < w2.heap.size := by omega
      have K1 := hide k1
      have K2 := hide k2
      have K4 := hide k4
      have hF3 : F hs el ei 3 (nm j) = none := F_ge hs el ei 3 (by omega) j (by omega) hj4
      have ho : idsBy i d ((F hs el ei 3 (nameOf (j : Int)).data.toList).getD (0, 0)).2 = IntKind.u64.wrap (IntKind.u64.wrap (i + d)) := by
        rw [show (nameOf (j : Int)).data.toList = nm j from rfl, hF3]
        exact idsBy_eq0 i d
      rw [ho] at hB2
      have KT := hide hT2
      rw [show (nameOf (j : Int)).data.toList = nm j from rfl, hF3, if_neg (show ¬ (none : Option (Int × Int)).isSome = true from by decide)] at KT
      rw [show clockBy c l = c from if_neg (by omega)] at hB2
      obtain ⟨c0, c1, c2, c3, _, _, _, _⟩ := tally_cells hB2
      have c02 := cell2 c0 (.cells #[.int .u64 l, .int .u64 d] 40) (.cells #[.int .u64 0, .int .u64 0] 40)
      have c12 := cell2 c1 (.cells #[.int .u64 l, .int .u64 d] 40) (.cells #[.int .u64 0, .int .u64 0] 40)
      have c22 := cell2 c2 (.cells #[.int .u64 l, .int .u64 d] 40) (.cells #[.int .u64 0, .int .u64 0] 40)
      clear hB2 hT2 hF2 k1 k2 k3 k4 HJ hF3 ho
      go_wp2_with fail
      have hW3 : Below w2.heap.size w2 ((w2.alloc (.cells #[.int .u64 l, .int .u64 d] 40)).alloc (.cells #[.int .u64 0, .int .u64 0] 40)) := ((Below.refl _ _).alloc (Nat.le_refl _) _).alloc (by rw [World.size_alloc]; omega) _
      generalize (w2.alloc (.cells #[.int .u64 l, .int .u64 d] 40)).alloc (.cells #[.int .u64 0, .int .u64 0] 40) = W3 at hW3 ⊢
      clear c0 c1 c2 b0 b1 hlook c02 c12 c22
      have hcell : ∀ W, Below w2.heap.size w2 W → W.cell? ⟨w.heap.size + 1 + 1, 3, none⟩ = some (.map (some (w.heap.size + 1 + 1 + 1))) := fun W hW => (hW.cell (p := ⟨w.heap.size + 1 + 1, 3, none⟩) (by show w.heap.size + 1 + 1 < _; omega)).trans c3
      go_loopw [30] (fun k wr => ∃ q : Nat, q ≤ 3 ∧ k = .int .i64 q ∧ Below w2.heap.size w2 wr) (fun k _ => 3 - (intOf k).toNat)
      case atStart => exact ⟨0, by omega, rfl, hW3⟩
      case round =>
        obtain ⟨q, hq', rfl, hbel⟩ := hrel
        by_cases hq3 : q < 3
        · by_cases hqj : q = j
          · omega
          · have hb : ((q : Int) == (j : Int)) = false := by simp; omega
            have hz := hbel.size
            have hput : put (F hs el ei 3) (nm j) (l, d) (nm q) = if hs q then some (el q, ei q) else none := by rw [put_nm _ q j (by omega) hj4, if_neg hqj]; exact F_lt hs el ei 3 (by omega) q hq3
            have hlk0 : ∀ W, Below w2.heap.size w2 W → (Instr.lookup 36 (.map (some (w.heap.size + 1 + 1 + 1))) (.string (nameOf q)) true).run Yba.prog W = .ok (.tuple #[extV ((if hs q then some (el q, ei q) else none).getD (0, 0)), .bool (if hs q then some (el q, ei q) else none).isSome]) W := by
              intro W hW
              have hT := KT.out.of_block (hW.block _ (by omega))
              have := hT.look_ok (nameOf q) (nameOf_le _)
              rw [show (nameOf (q : Int)).data.toList = nm q from rfl, hput] at this
              exact this
            have hc0 := has_cells ((hbel.block _ (by omega)).trans K1.out) q hq3
            obtain ⟨z0, z1⟩ := ex_cells ((hbel.block _ (by omega)).trans K2.out) q hq3
            cases hqv : hs q with
            | true =>
              have hlk : ∀ W, Below w2.heap.size w2 W → (Instr.lookup 36 (.map (some (w.heap.size + 1 + 1 + 1))) (.string (nameOf q)) true).run Yba.prog W = .ok (.tuple #[.agg #[.int .u64 (el q), .int .u64 (ei q)], .bool true]) W := by
                intro W hW
                have := hlk0 W hW
                rw [hqv] at this
                exact this
              rw [hqv] at hc0
              clear hlk0 hput
              go_wp2_with fail
              go_region_held3 (fun W => Below w2.heap.size w2 W) (first | exact hbel.drew | exact (hbel.alloc hbel.size _).drew | exact hbel.alloc hbel.size _) (first | (go_at_call 9; refine (name_any _ _).mono ?_; rintro e w' ⟨rfl, rfl⟩))
              all_goals
                generalize hW4 : (wr.alloc (.cells #[.int .u64 (el q), .int .u64 (ei q)] 40)).drew = W4
                obtain ⟨y1, y2, y3⟩ := got_world hW4
                obtain ⟨g0, g1⟩ := box_cells y1
                have z0' := (World.cell?_of_block (w := wr) (y2 (w.heap.size + 1) (by omega))).trans z0
                have z1' := (World.cell?_of_block (w := wr) (y2 (w.heap.size + 1) (by omega))).trans z1
                have hc0' := (World.cell?_of_block (w := wr) (y2 (w.heap.size) (by omega))).trans hc0
                have hb4 := hide (hbel.trans (y3.mono hbel.size))
                clear hW4 y1 y2 y3 hlk z0 z1 hc0 hcell
                go_wp2_with fail
                go_quiet (fail)
                go_wp2_with fail
                go_light
                go_roundw
                case rel => exact ⟨q + 1, by omega, by go_num, below_drewN hb4.out _⟩
                case measure => simp [intOf]; omega
            | false =>
              have hlk : ∀ W, Below w2.heap.size w2 W → (Instr.lookup 36 (.map (some (w.heap.size + 1 + 1 + 1))) (.string (nameOf q)) true).run Yba.prog W = .ok (.tuple #[.agg #[.int .u64 0, .int .u64 0], .bool false]) W := by
                intro W hW
                have := hlk0 W hW
                rw [hqv] at this
                exact this
              rw [hqv] at hc0
              clear hlk0 hput
              go_wp2_with fail
              go_region_held3 (fun W => Below w2.heap.size w2 W) (first | exact hbel.drew | exact (hbel.alloc hbel.size _).drew | exact hbel.alloc hbel.size _) (first | (go_at_call 9; refine (name_any _ _).mono ?_; rintro e w' ⟨rfl, rfl⟩))
              all_goals
                generalize hW4 : (wr.alloc (.cells #[.int .u64 0, .int .u64 0] 40)).drew = W4
                obtain ⟨y1, y2, y3⟩ := got_world hW4
                obtain ⟨g0, g1⟩ := box_cells y1
                have z0' := (World.cell?_of_block (w := wr) (y2 (w.heap.size + 1) (by omega))).trans z0
                have z1' := (World.cell?_of_block (w := wr) (y2 (w.heap.size + 1) (by omega))).trans z1
                have hc0' := (World.cell?_of_block (w := wr) (y2 (w.heap.size) (by omega))).trans hc0
                have hb4 := hide (hbel.trans (y3.mono hbel.size))
                clear hW4 y1 y2 y3 hlk z0 z1 hc0 hcell
                go_wp2_with fail
                go_quiet (fail)
                go_wp2_with fail
                go_light
                go_roundw
                case rel => exact ⟨q + 1, by omega, by go_num, below_drewN hb4.out _⟩
                case measure => simp [intOf]; omega
        · have hqe : q = 3 := by omega
          subst hqe
          have hT := KT.out.of_block (hbel.block _ (by omega))
          have hlen := hT.len 3
          have hc3 := hcell wr hbel
          have hfin := hide (K4.out.trans (hbel.mono (by omega)))
          clear hT hcell hbel
          go_wp2_with fail
          go_ret
          exact ⟨rfl, hfin.out⟩

end Go.Proofs.Ybulkaswg

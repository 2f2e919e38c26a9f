/-
  LawS2218BDistinct (4): the walk.
-/
import Derived.Test.YbulkasxiDistinctParts
namespace Go.Proofs.Ybulkasxi
open Go.RowKit

set_option maxRecDepth 100000 in
set_option maxHeartbeats 1000000 in
theorem distinct_walk (b off len cap : Nat) (was : Nat → Bool) (R : Nat → Int) (w : World) (hl : len ≤ 1024) (hc : ∀ i, i < len → w.cell? ⟨b, off + i, none⟩ = some (.int .u8 (R i))) (hb0 : 0 < len → b < w.heap.size) (hR : ∀ i, 0 ≤ R i ∧ R i ≤ 255) :
    Calls Yba.prog 4 #[.slice (some ⟨b, off, none⟩) len cap, .agg #[.bool (was 0), .bool (was 1), .bool (was 2), .bool (was 3)]] w fun e w' => e = .returned (.bool true) ∧ Below w.heap.size w w' := by
  obtain ⟨cs, hb, h33, hsz⟩ := build48z
  have hb51 := build51
  have hd : decide ((1024 : Int) < (len : Int)) = false := by simp; omega
  go_enter Yba.func4, Yba.ntmps4
  go_wp2_with (first | (with_reducible refine wpList_build0 _ rfl 48 rfl (.agg cs) (hb _) ?_) | (with_reducible refine wpList_box _ rfl 48 _ rfl (.agg cs) (by with_unfolding_all rfl) _ _ (run_box48 cs _) ?_))
  have hM := Made.start was h33 w
  generalize ((w.alloc (.cells #[.bool (was 0), .bool (was 1), .bool (was 2), .bool (was 3)] 55)).alloc (.cells cs 48)).alloc (.cells #[.pointer none, .pointer none, .pointer none, .pointer none] 56) = W0 at hM ⊢
  clear hb h33 hsz
  go_loopw [7] (fun i wr => ∃ q : Nat, q ≤ 4 ∧ i = .int .i64 q ∧ Made w was q wr) (fun i _ => 4 - (intOf i).toNat)
  case atStart => exact ⟨0, by omega, rfl, hM⟩
  case round =>
    obtain ⟨q, hq, rfl, hmd⟩ := hrel
    by_cases hq4 : q < 4
    · have c0 := hmd.wst q hq4
      obtain ⟨⟨v0, c1⟩, f1⟩ := hmd.liv q hq4
      have hz : w.heap.size + 3 ≤ wr.heap.size := by have := hmd.siz; omega
      have c1' := cell_alloc c1 (.cells #[.string ⟨#[]⟩, .int .i64 0, .int .i64 0, .bool (was q)] 51)
      have f1' := frozen_alloc (by show w.heap.size + 2 < _; omega) f1 (.cells #[.string ⟨#[]⟩, .int .i64 0, .int .i64 0, .bool (was q)] 51)
      have HM := hide (hmd.step hq4)
      clear hmd
      go_wp2_with fail
      go_light
      go_roundw
      case rel => exact ⟨q + 1, by omega, by go_num, HM.out⟩
      case measure => simp [intOf]; omega
    · have hqe : q = 4 := by omega
      subst hqe
      have hI := hide (Inv.start R hmd)
      have HZ := hide hmd.siz
      clear hmd
      go_wp2_with fail
      generalize wr.alloc (.cells #[.bool false, .bool false, .bool false, .bool false] 55) = W1 at hI ⊢
      rw [show wr.heap.size = w.heap.size + 7 from by have := HZ.out; omega]
      clear HZ
      go_loopw [9, 32] (fun n i wr => ∃ k : Nat, k ≤ len ∧ i = .int .i64 k ∧ n = .int .i64 (cnt was R k) ∧ Inv w was R k wr) (fun _ i _ => len - (intOf i).toNat)
      case atStart => exact ⟨0, by omega, rfl, rfl, hI.out⟩
      case round =>
        obtain ⟨k, hk, rfl, rfl, hinv⟩ := hrel
        have hcl := cnt_le was R k
        by_cases hlt : k < len
        · have q0 : wr.cell? ⟨b, off + k, none⟩ = some (.int .u8 (R k)) := (hinv.bel.cell (p := ⟨b, off + k, none⟩) (hb0 (by omega))).trans (hc k hlt)
          obtain ⟨j, hj⟩ : ∃ j : Nat, R k % 4 = (j : Int) := ⟨(R k % 4).toNat, by have := hR k; omega⟩
          have hj4 : j < 4 := by omega
          have hRk := hR k
          have c0 := hinv.wst j hj4
          have c1 := hinv.ptr j hj4
          obtain ⟨c2, f2⟩ := hinv.mrk j hj4
          obtain ⟨c3, f3⟩ := hinv.sen j hj4
          obtain ⟨c4, f4⟩ := hinv.ply
          have HI := hide hinv
          clear hc hR hinv
          cases hwj : was j with
          | true =>
            have hm : (was j || seen was R k j) = true := by rw [hwj]; rfl
            rw [hm] at c2
            rw [hwj] at c0
            have HI2 := hide (HI.out.stay hj hm)
            have hce := hide (show cnt was R (k + 1) = cnt was R k by rw [cnt_succ, hj, Int.toNat_natCast, hwj]; simp)
            clear hm
            go_wp2_with (go_at_call 5; refine (ans_true _ _ _ c2).mono ?_; rintro e w' ⟨rfl, rfl⟩)
            go_light
            go_roundw
            case rel => first | exact ⟨k + 1, by omega, by go_num, by rw [hce.out], HI2.out⟩ | ((repeat apply Exists.intro); exact ⟨⟨k + 1, by omega, by go_num, by rw [hce.out], HI2.out⟩, rfl⟩)
            case measure => simp [intOf]; omega
          | false =>
            rw [hwj] at c0
            cases hsj : seen was R k j with
            | true =>
              have hm : (was j || seen was R k j) = true := by rw [hwj, hsj]; rfl
              rw [hm] at c2
              rw [hsj] at c3
              have HI2 := hide (HI.out.stay hj hm)
              have hce := hide (show cnt was R (k + 1) = cnt was R k by rw [cnt_succ, hj, Int.toNat_natCast, hsj]; simp)
              clear hm
              go_wp2_with (go_at_call 5; refine (ans_true _ _ _ c2).mono ?_; rintro e w' ⟨rfl, rfl⟩)
              go_light
              go_roundw
              case rel => first | exact ⟨k + 1, by omega, by go_num, by rw [hce.out], HI2.out⟩ | ((repeat apply Exists.intro); exact ⟨⟨k + 1, by omega, by go_num, by rw [hce.out], HI2.out⟩, rfl⟩)
              case measure => simp [intOf]; omega
            | false =>
              have hm : (was j || seen was R k j) = false := by rw [hwj, hsj]; rfl
              rw [hm] at c2
              rw [hsj] at c3
              have HI2 := hide (HI.out.turn hj hj4 hwj hsj)
              have hce := hide (show cnt was R (k + 1) = cnt was R k + 1 by rw [cnt_succ, hj, Int.toNat_natCast, hwj, hsj]; simp)
              clear hm
              go_wp2_with fail
              refine (ans_false _ _ (cnt was R k) _ (by omega) c2 f2 c4 f4).mono ?_
              rintro e w2 ⟨rfl, hw2⟩
              rw [IntWalk.wrap64_in _ ⟨by omega, by omega⟩] at hw2
              have d0 : w2.cell? ⟨w.heap.size, j, none⟩ = some (.bool false) := by rw [hw2]; exact cell_set_other (by intro e; injection e with e1; omega) (cell_set_other (by intro e; injection e with e1; omega) c0)
              have d3 : w2.cell? ⟨w.heap.size + 7, j, none⟩ = some (.bool false) := by rw [hw2]; exact cell_set_other (by intro e; injection e with e1; omega) (cell_set_other (by intro e; injection e with e1; omega) c3)
              have g3 : w2.frozen? ⟨w.heap.size + 7, j, none⟩ = false := by rw [hw2]; exact frozen_set (frozen_set f3)
              rw [← hw2] at HI2
              clear hw2 c0 c1 c2 c3 c4 f2 f3 f4 q0
              go_wp2_with fail
              go_light
              go_roundw
              case rel => first | exact ⟨k + 1, by omega, by go_num, by rw [hce.out]; go_num, HI2.out⟩ | ((repeat apply Exists.intro); exact ⟨⟨k + 1, by omega, by go_num, by rw [hce.out]; go_num, HI2.out⟩, rfl⟩)
              case measure => simp [intOf]; omega
        · have hke : k = len := by omega
          subst hke
          obtain ⟨c4, f4⟩ := hinv.ply
          have HI := hide hinv
          clear hinv hc
          go_wp2_with fail
          go_loopw [13] (fun i wr => ∃ q : Nat, q ≤ 4 ∧ i = .int .i64 q ∧ Inv w was R k wr) (fun i _ => 4 - (intOf i).toNat)
          case atStart => exact ⟨0, by omega, rfl, HI.out⟩
          case round =>
            obtain ⟨q, hq, rfl, hinv⟩ := hrel
            by_cases hq4 : q < 4
            · have c0 := hinv.wst q hq4
              have c1 := hinv.ptr q hq4
              obtain ⟨c2, f2⟩ := hinv.mrk q hq4
              obtain ⟨c3, f3⟩ := hinv.sen q hq4
              have HI := hide hinv
              clear hinv
              cases hwj : was q with
              | true =>
                rw [hwj] at c0 c2
                rw [Bool.true_or] at c2
                go_wp2_with fail
                go_quiet (fail)
                go_wp2_with fail
                go_light
                go_roundw
                case rel => exact ⟨q + 1, by omega, by go_num, HI.out.drewN _⟩
                case measure => simp [intOf]; omega
              | false =>
                rw [hwj] at c0 c2
                rw [Bool.false_or] at c2
                go_wp2_with fail
                go_quiet (fail)
                go_wp2_with fail
                go_light
                go_roundw
                case rel => exact ⟨q + 1, by omega, by go_num, HI.out.drewN _⟩
                case measure => simp [intOf]; omega
            · have HF := hide hinv.bel
              clear hinv
              go_wp2_with fail
              go_ret
              exact ⟨rfl, HF.out⟩

end Go.Proofs.Ybulkasxi

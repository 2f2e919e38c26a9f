/-
  LawS2218BDistinct (4): no pick; many picks; every slice of picks.
-/
import Derived.Test.YbulkasxiDistinct
namespace Go.Proofs.Ybulkasxi
open Go.RowKit

set_option maxRecDepth 100000 in
set_option maxHeartbeats 1000000 in
theorem distinct_empty (a : Option Addr) (cap : Nat) (was : Nat → Bool) (R : Nat → Int) (w : World) :
    Calls Yba.prog 4 #[.slice a 0 cap, .agg #[.bool (was 0), .bool (was 1), .bool (was 2), .bool (was 3)]] w fun e w' => e = .returned (.bool true) ∧ Below w.heap.size w w' := by
  obtain ⟨cs, hb, h33, hsz⟩ := build48z
  have hb51 := build51
  go_enter Yba.func4, Yba.ntmps4
  go_wp2_with (first | (with_reducible refine wpList_build0 _ rfl 48 rfl (.agg cs) (hb _) ?_) | (with_reducible refine wpList_box _ rfl 48 _ rfl (.agg cs) (by with_unfolding_all rfl) _ _ (run_box48 cs _) ?_))
  have hM := Made.start was h33 w
  generalize ((w.alloc (.cells #[.bool (was 0), .bool (was 1), .bool (was 2), .bool (was 3)] 55)).alloc (.cells cs 48)).alloc (.cells #[.pointer none, .pointer none, .pointer none, .pointer none] 56) = W0 at hM ⊢
  clear hb h33 hsz
  go_loopw [7] (fun i wr => ∃ q : Nat, q ≤ 4 ∧ i = .int .i64 q ∧ Made w was q wr) (fun i _ => 4 - (intOf i).toNat)
  case atStart => exact ⟨0, by omega, rfl, hM⟩
  case round =>
    obtain ⟨q, hq, rfl, hmd⟩ := hrel
    by_cases hq4 : q < 4
    · have c0 := hmd.wst q hq4
      obtain ⟨⟨v0, c1⟩, f1⟩ := hmd.liv q hq4
      have hz : w.heap.size + 3 ≤ wr.heap.size := by have := hmd.siz; omega
      have c1' := cell_alloc c1 (.cells #[.string ⟨#[]⟩, .int .i64 0, .int .i64 0, .bool (was q)] 51)
      have f1' := frozen_alloc (by show w.heap.size + 2 < _; omega) f1 (.cells #[.string ⟨#[]⟩, .int .i64 0, .int .i64 0, .bool (was q)] 51)
      have HM := hide (hmd.step hq4)
      clear hmd
      go_wp2_with fail
      go_light
      go_roundw
      case rel => exact ⟨q + 1, by omega, by go_num, HM.out⟩
      case measure => simp [intOf]; omega
    · have hqe : q = 4 := by omega
      subst hqe
      have hI := hide (Inv.start R hmd)
      have HZ := hide hmd.siz
      clear hmd
      go_wp2_with fail
      generalize wr.alloc (.cells #[.bool false, .bool false, .bool false, .bool false] 55) = W1 at hI ⊢
      rw [show wr.heap.size = w.heap.size + 7 from by have := HZ.out; omega]
      clear HZ
      obtain ⟨c4, f4⟩ := hI.out.ply
      refine wp_loop_rounds 1 ?_
      rw [rounds_succ]
      go_wp2_with fail
      go_loopw [13] (fun i wr => ∃ q : Nat, q ≤ 4 ∧ i = .int .i64 q ∧ Inv w was R 0 wr) (fun i _ => 4 - (intOf i).toNat)
      case atStart => exact ⟨0, by omega, rfl, hI.out⟩
      case round =>
        obtain ⟨q, hq, rfl, hinv⟩ := hrel
        by_cases hq4 : q < 4
        · have c0 := hinv.wst q hq4
          have c1 := hinv.ptr q hq4
          obtain ⟨c2, f2⟩ := hinv.mrk q hq4
          obtain ⟨c3, f3⟩ := hinv.sen q hq4
          have HI := hide hinv
          clear hinv
          cases hwj : was q with
          | true =>
            rw [hwj] at c0 c2
            rw [Bool.true_or] at c2
            go_wp2_with fail
            go_quiet (fail)
            go_wp2_with fail
            go_light
            go_roundw
            case rel => exact ⟨q + 1, by omega, by go_num, HI.out.drewN _⟩
            case measure => simp [intOf]; omega
          | false =>
            rw [hwj] at c0 c2
            rw [Bool.false_or] at c2
            go_wp2_with fail
            go_quiet (fail)
            go_wp2_with fail
            go_light
            go_roundw
            case rel => exact ⟨q + 1, by omega, by go_num, HI.out.drewN _⟩
            case measure => simp [intOf]; omega
        · have HF := hide hinv.bel
          clear hinv
          go_wp2_with fail
          go_ret
          exact ⟨rfl, HF.out⟩

set_option maxHeartbeats 400000 in
theorem distinct_long (a : Option Addr) (len cap : Nat) (was : Nat → Bool) (w : World) (hl : 1024 < len) :
    Calls Yba.prog 4 #[.slice a len cap, .agg #[.bool (was 0), .bool (was 1), .bool (was 2), .bool (was 3)]] w fun e w' => e = .returned (.bool true) ∧ Below w.heap.size w w' := by
  go_enter Yba.func4, Yba.ntmps4
  go_wp2_with fail
  go_ret
  exact ⟨rfl, (Below.refl _ _).alloc (Nat.le_refl _) _⟩

/-- WHAT THE WALK IS TOLD OF A SLICE OF BYTES THAT CAME IN. -/
def IsRow (w : World) (a : Option Addr) (len : Nat) : Prop :=
  len = 0 ∨ ∃ b off, a = some ⟨b, off, none⟩ ∧ b < w.heap.size ∧ ∃ R : Nat → Int, (∀ i, 0 ≤ R i ∧ R i ≤ 255) ∧ (∀ i, i < len → w.cell? ⟨b, off + i, none⟩ = some (.int .u8 (R i)))

theorem distinct_any (a : Option Addr) (len cap : Nat) (was : Nat → Bool) (w : World) (h : IsRow w a len) :
    Calls Yba.prog 4 #[.slice a len cap, .agg #[.bool (was 0), .bool (was 1), .bool (was 2), .bool (was 3)]] w fun e w' => e = .returned (.bool true) ∧ Below w.heap.size w w' := by
  rcases h with rfl | ⟨b, off, rfl, hb, R, hR, hc⟩
  · exact distinct_empty a cap was (fun _ => 0) w
  · by_cases hl : 1024 < len
    · exact distinct_long _ len cap was w hl
    · exact distinct_walk b off len cap was R w (by omega) hc (fun _ => hb) hR

end Go.Proofs.Ybulkasxi

/-
  LawS2220CReserve (3): the walk where the table has no entries yet.
-/
import Derived.Test.YbulkasykLaw
namespace Go.Proofs.Ybulkasyk
open Go.RowKit

set_option maxRecDepth 100000 in
set_option maxHeartbeats 2000000 in
theorem law_small (a0 a2 a3 : Int) (a : Option Addr) (len cap kk m cnt : Nat) (f : Int) (w : World) (hl : len ≤ 1024)
    (h0 : 0 ≤ a0 ∧ a0 ≤ 255) (h2 : 0 ≤ a2 ∧ a2 ≤ 65535) (h3 : 0 ≤ a3 ∧ a3 ≤ 4294967295) (hk : a0 % 6 = (kk : Int)) (hm : a2 % 600 = (m : Int)) (hf : a3 % 100000 = f) (hkk : kk ≤ 0) (hcnt : cnt ≤ 0) :
    Calls Yba.prog 3 #[.int .u8 a0, .slice a len cap, .int .u16 a2, .int .u32 a3] w fun e w' => e = .returned (.bool true) ∧ Below w.heap.size w w' := by
  have hm6 : m < 600 := by omega
  have hf0 : 0 ≤ f ∧ f < 100000 := by omega
  go_enter Yba.func3, Yba.ntmps3
  go_upto_if 43 with (fail)
  go_cut [11] (fun s wx => s = .int .i64 (cnt : Int) ∧ wx = w)
  case first =>
    go_wp2_with fail
    all_goals
      go_meet
      case rel => exact ⟨by go_num, rfl⟩
  case rest =>
    obtain ⟨rfl, rfl⟩ := hcut
    obtain ⟨i0, hi, hz0, hz1', hz2'⟩ := info_parts info30
    go_wp2_with (at_make; refine wpList_make_full _ rfl _ _ 25 rfl wc.heap.size 30 i0 _ 8 Yba.underlying25 hi hz0 hz1' .i64 .i64 _ _ cnt rfl rfl rfl rfl (by rw [hz2']; omega) (by unfold maxLen; omega) (Nat.le_refl _) ?_; intro w1 hown1 hgrow1)
    have hLY := hide (Laying.start (H := fun _ => 0) hown1 hgrow1)
    clear hown1 hgrow1 hi hz0 hz1' hz2'
    go_loopw [13] (fun i wr => ∃ k : Nat, k ≤ cnt ∧ i = .int .i64 k ∧ Laying (fun _ => 0) wc.heap.size cnt k wc wr) (fun i _ => cnt - (intOf i).toNat)
    case atStart => exact ⟨0, by omega, rfl, hLY.out⟩
    case round =>
      obtain ⟨k, hkc, rfl, hly⟩ := hrel
      have hke : cnt = k := by omega
      subst hke
      have hSB := hly.lt
      have HLY := hide hly
      obtain ⟨i0, hi, hz0, hz1', hz2'⟩ := info_parts info26
      clear hly
      go_upto_region 24 with (fail)
      generalize hW0 : wr.alloc (.cells #[.slice none 0 0, .int .i64 0] 33) = W0
      obtain ⟨hdr, hdf, num, nuf, hbel, hsl, hsz⟩ := head_world HLY.out (Nat.le_refl _) hW0
      clear HLY hW0
      generalize hTB : wr.heap.size = TB at hSB hdr hdf num nuf hsz ⊢
      generalize hSBe : wc.heap.size = SB at hSB hsl ⊢
      have HSB := hide hSBe
      clear hTB hSBe wr
      have hTlt : TB < W0.heap.size := by omega
      have HBL := hide hbel
      clear hsl hbel hsz
      go_upto_region 26 with (at_make; refine wpList_make_full _ rfl _ _ 22 rfl W0.heap.size 26 i0 (.int .u64 0) 1 Yba.underlying22 hi hz0 hz1' .i64 .i64 _ _ 0 rfl rfl rfl rfl (by rw [hz2']; omega) (by unfold maxLen; omega) (Nat.le_refl _) ?_; intro w1 hown1 hgrow1)
      have hdr1 := hgrow1.cell hdr (by simp)
      have num1 := hgrow1.cell num (by simp)
      have hdf1 : w1.frozen? ⟨TB, 0, none⟩ = false := (World.frozen?_of_block (w := W0) (hgrow1.block TB hTlt (by simp))).trans hdf
      have nuf1 : w1.frozen? ⟨TB, 1, none⟩ = false := (World.frozen?_of_block (w := W0) (hgrow1.block TB hTlt (by simp))).trans nuf
      have HBL2 := hide (HBL.out.trans (((Fr.refl (fun _ => False) W0).grown hgrow1).below (N := wc.heap.size) (by have := HSB.out; omega) (fun k hk c => c.elim)))
      have hsz1 : W0.heap.size ≤ w1.heap.size := ((Fr.refl (fun _ => False) W0).grown hgrow1).size
      have hST : SB ≠ TB := by omega
      clear hown1 hgrow1 hdr hdf num nuf hi hz0 hz1' hz2'
      go_upto_region 27 with (with_reducible refine wpList_copy_nothing rfl _ _ 22 22 rfl 26 Yba.underlying22 size26 (some ⟨W0.heap.size, 0, none⟩) none 0 0 0 0 (by with_unfolding_all rfl) (by with_unfolding_all rfl) rfl ?_)
      go_wp2_with fail
      refine (reserve_none TB SB cnt m _ f (fun _ => 0) w1 hdr1 hdf1 (by rw [show cnt = 0 by omega]; exact num1) nuf1 (fun i hi => absurd hi (by omega)) hST (fun _ => by omega) hf0 (by omega) hm6).mono ?_
      rintro x w3 ⟨z, hfit, hneed, hcase⟩
      rcases hcase with ⟨hz, rfl, rfl⟩ | ⟨hz, rfl, EB', T', hEB', ht', hnz', hfd', hfr'⟩
      · exact absurd hfit.2.1 (by omega)
      · have hzL : 16 ≤ z := hfit.2.1
        have hzb := hfit.1.bd
        have hzb2 := hzb.2
        have hpw := pow_and hfit.1
        have hdr3 := ht'.hdr
        have num3 := ht'.num
        have HT3 := hide ht'
        have HNZ3 := hide hnz'
        have HBL3 := hide (HBL2.out.trans (hfr'.below (N := wc.heap.size) (by have := HSB.out; omega) (fun k hk c => by have := HSB.out; omega)))
        by_cases hz16 : 16 < z
        · have hz2 : z / 2 < 2 * (cnt + m) := hfit.2.2 hz16
          clear hfit ht' hnz' hfd' hfr' hzb
          go_wp2_with fail
          go_loop [24, 25] (fun c i => ∃ q : Nat, q ≤ z ∧ i = .int .i64 q ∧ c = .int .i64 (nz T' q)) (fun _ i => z - (intOf i).toNat)
          case atStart => exact ⟨0, by omega, rfl, rfl⟩
          case round =>
            obtain ⟨q, hq, rfl, rfl⟩ := hrel
            have hql := nz_le T' q
            by_cases hqz : q < z
            · have d1 := HT3.out.ent q hqz
              by_cases ht0 : T' q = 0
              · have hn1 := hide (show nz T' (q + 1) = nz T' q by simp [nz, ht0])
                rw [ht0] at d1
                clear ht0
                go_wp2_with fail
                go_light
                go_round
                case rel => exact ⟨q + 1, by omega, by go_num, by rw [hn1.out]⟩
                case measure => simp [intOf]; omega
              · have hn1 := hide (show nz T' (q + 1) = nz T' q + 1 by simp [nz, ht0])
                have hb : (T' q != 0) = true := by simp [ht0]
                go_wp2_with fail
                go_light
                go_round
                case rel => exact ⟨q + 1, by omega, by go_num, by rw [hn1.out]; go_num⟩
                case measure => simp [intOf]; omega
            · have hqe : z = q := by omega
              subst hqe
              rw [HNZ3.out]
              clear hql
              go_wp2_with fail
              go_loopw [228] (fun i wx => i = .int .i64 ((0 : Nat) : Int) ∧ wx = w3) (fun i _ => cnt - (intOf i).toNat)
              case atStart => exact ⟨rfl, rfl⟩
              case round =>
                obtain ⟨rfl, rfl⟩ := hrel
                go_wp2_with fail
                go_ret
                exact ⟨rfl, HBL3.out⟩
        · clear hfit ht' hnz' hfd' hfr' hzb
          go_wp2_with fail
          go_loop [24, 25] (fun c i => ∃ q : Nat, q ≤ z ∧ i = .int .i64 q ∧ c = .int .i64 (nz T' q)) (fun _ i => z - (intOf i).toNat)
          case atStart => exact ⟨0, by omega, rfl, rfl⟩
          case round =>
            obtain ⟨q, hq, rfl, rfl⟩ := hrel
            have hql := nz_le T' q
            by_cases hqz : q < z
            · have d1 := HT3.out.ent q hqz
              by_cases ht0 : T' q = 0
              · have hn1 := hide (show nz T' (q + 1) = nz T' q by simp [nz, ht0])
                rw [ht0] at d1
                clear ht0
                go_wp2_with fail
                go_light
                go_round
                case rel => exact ⟨q + 1, by omega, by go_num, by rw [hn1.out]⟩
                case measure => simp [intOf]; omega
              · have hn1 := hide (show nz T' (q + 1) = nz T' q + 1 by simp [nz, ht0])
                have hb : (T' q != 0) = true := by simp [ht0]
                go_wp2_with fail
                go_light
                go_round
                case rel => exact ⟨q + 1, by omega, by go_num, by rw [hn1.out]; go_num⟩
                case measure => simp [intOf]; omega
            · have hqe : z = q := by omega
              subst hqe
              rw [HNZ3.out]
              clear hql
              go_wp2_with fail
              go_loopw [228] (fun i wx => i = .int .i64 ((0 : Nat) : Int) ∧ wx = w3) (fun i _ => cnt - (intOf i).toNat)
              case atStart => exact ⟨rfl, rfl⟩
              case round =>
                obtain ⟨rfl, rfl⟩ := hrel
                go_wp2_with fail
                go_ret
                exact ⟨rfl, HBL3.out⟩
end Go.Proofs.Ybulkasyk

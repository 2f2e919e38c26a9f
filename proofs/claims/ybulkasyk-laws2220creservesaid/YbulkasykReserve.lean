/-
  (*indexTable).reserve (6): its contract.
-/
import Derived.Test.YbulkasykFill
import Derived.Deep.RegionHeld3
namespace Go.Proofs.Ybulkasyk
open Go.RowKit

theorem info26 : (Yba.prog.info? 26).map (fun i => (i.zero, i.size, i.bytes)) = some (some (.int .u64 0), 1, 8) := by kernel_rfl

/-- What size the table gets: 'base' doubled till 'need' fits. -/
def Fits (base need z : Nat) : Prop := Pow z ∧ base ≤ z ∧ (base < z → z / 2 < need)

theorem Fits.double {base need z : Nat} (h : Fits base need z) (hz : z < need) (hn : need ≤ 1500) : Fits base need (z * 2) := by
  obtain ⟨⟨a, ha, rfl⟩, hb, _⟩ := h
  have ha10 : a ≤ 10 := by
    by_cases c : a = 11
    · subst c; simp at hz; omega
    · omega
  refine ⟨⟨a + 1, by omega, by rw [Nat.pow_succ]⟩, by omega, fun _ => ?_⟩
  rw [Nat.mul_div_cancel _ (by omega)]
  exact hz

set_option maxRecDepth 100000 in
set_option maxHeartbeats 1000000 in
theorem reserve_some (TB SB s0 cnt m : Nat) (a0 : Option Addr) (f : Int) (H : Nat → Nat) (w : World) (hdr : w.cell? ⟨TB, 0, none⟩ = some (.slice a0 s0 s0)) (hdf : w.frozen? ⟨TB, 0, none⟩ = false) (num : w.cell? ⟨TB, 1, none⟩ = some (.int .i64 cnt)) (nuf : w.frozen? ⟨TB, 1, none⟩ = false)
    (hsl : SlotsIs w SB cnt H) (hST : SB ≠ TB) (hH : ∀ k, H k < 18446744073709551616) (hf : 0 ≤ f ∧ f < 100000) (h16 : 16 ≤ s0) (hp : Pow s0) (hc : cnt ≤ 128) (hm : m < 600) :
    Calls Yba.prog 6 #[.pointer (some ⟨TB, 0, none⟩), .int .i64 m, .slice (some ⟨SB, 0, none⟩) cnt cnt, .int .i64 f] w fun x w' =>
      ∃ z, Fits s0 (2 * (cnt + m)) z ∧ 2 * (cnt + m) ≤ z ∧ ((z = s0 ∧ x = .returned (.bool false) ∧ w' = w) ∨
        (z ≠ s0 ∧ x = .returned (.bool true) ∧ ∃ EB T, w.heap.size ≤ EB ∧ TabIs w' TB EB z T (cnt : Int) ∧ nz T z = cnt ∧ (∀ k, k < cnt → Found T z (H k) (ent (H k) (f + k))) ∧ Fr (fun k => k = TB) w w')) := by
  have HSL := hide hsl
  have hTlt : TB < w.heap.size := World.block_lt_of_cell? w _ hdr
  have hbd := hp.bd
  have hbd1 := hbd.2
  have HF0 := hide (show Fits s0 (2 * (cnt + m)) s0 from ⟨hp, Nat.le_refl _, fun c => by omega⟩)
  clear hp hbd
  clear hsl
  go_enter Yba.func6, Yba.ntmps6
  go_wp2_with fail
  go_loop [9] (fun z' => ∃ z : Nat, z' = .int .i64 z ∧ Hid (Fits s0 (2 * (cnt + m)) z) ∧ 16 ≤ z ∧ z ≤ 2048) (fun z' => 4096 - (intOf z').toNat)
  case atStart => exact ⟨s0, rfl, HF0, by omega, by omega⟩
  case round =>
    obtain ⟨z, rfl, hfit, hz1, hz2⟩ := hrel
    by_cases hlt : z < 2 * (cnt + m)
    · go_wp2_with fail
      go_light
      go_round
      case rel =>
        have hd := hfit.out.double hlt (by omega)
        have hb := hd.1.bd
        exact ⟨z * 2, by go_num, hide hd, by omega, by omega⟩
      case measure => simp [intOf]; omega
    · by_cases hzs : z = s0
      · have hb : ((z : Int) == ((s0 : Nat) : Int)) = true := by simp [hzs]
        have HZ := hide hzs
        clear hzs
        go_wp2_with fail
        go_ret
        exact ⟨z, hfit.out, by omega, Or.inl ⟨HZ.out, rfl, rfl⟩⟩
      · have hb : ((z : Int) == ((s0 : Nat) : Int)) = false := by simp; omega
        obtain ⟨i0, hi, hz0, hz1', hz2'⟩ := info_parts info26
        go_wp2_with (at_make; refine wpList_make_full _ rfl _ _ 22 rfl w.heap.size 26 i0 (.int .u64 0) 1 Yba.underlying22 hi hz0 hz1' .i64 .i64 _ _ z rfl rfl rfl rfl (by rw [hz2']; omega) (by unfold maxLen; omega) (Nat.le_refl _) ?_; intro w1 hown1 hgrow1; have hdr1 := hgrow1.cell hdr (by simp); have num1 := hgrow1.cell num (by simp); have hdf1 : w1.frozen? ⟨TB, 0, none⟩ = false := (World.frozen?_of_block (w := w) (hgrow1.block TB hTlt (by simp))).trans hdf; have nuf1 : w1.frozen? ⟨TB, 1, none⟩ = false := (World.frozen?_of_block (w := w) (hgrow1.block TB hTlt (by simp))).trans nuf)
        generalize hW2 : (w1.setCell ⟨TB, 0, none⟩ (.slice (some ⟨w.heap.size, 0, none⟩) z z)).setCell ⟨TB, 1, none⟩ (.int .i64 0) = W2
        have hF := hide (Filled.start (H := H) (f := f) hdr1 hdf1 num1 nuf1 hTlt hown1 hgrow1 hW2)
        clear hW2 hown1 hgrow1 hdr1 hdf1 num1 nuf1 hi hz0 hz1' hz2'
        go_loopw [45] (fun i wr => ∃ k : Nat, k ≤ cnt ∧ i = .int .i64 k ∧ Filled H f TB w.heap.size z k w wr) (fun i _ => cnt - (intOf i).toNat)
        case atStart => exact ⟨0, by omega, rfl, hF.out⟩
        case round =>
          obtain ⟨k, hk, rfl, hfl⟩ := hrel
          by_cases hkc : k < cnt
          · obtain ⟨T, ht, hnz, hfd⟩ := hfl.tab
            have hcs := HSL.out k hkc
            have hSlt : SB < w.heap.size := World.block_lt_of_cell? w _ hcs
            have c0 := hfl.frm.cell (p := ⟨SB, k * 8, none⟩) (by intro c; rcases c with c | c; exact hST c; exact absurd (show SB = w.heap.size from c) (by omega)) hcs
            have hHk := hH k
            have HTt := hide ht.drew
            have HNZ := hide hnz
            have HFD := hide hfd
            have HFR := hide hfl.frm.drew
            have hroom := hide (nz_room T z (by omega))
            have HPW := hide hfit.out.1
            have hwr : IntKind.i64.wrap (f + (k : Int)) = f + (k : Int) := wrap_i64_in _ (by omega) (by omega)
            clear ht hnz hfd hfl hcs
            go_wp2_with fail
            go_region_held3 (fun W => W.cell? ⟨SB, k * 8, none⟩ = some (.int .u64 ((H k : Nat) : Int))) (first | assumption | go_keep)
              (first | (go_at_call 5; go_must (refine (entry_any _ _ _ (by omega) (by omega) (by omega) (by omega)).mono ?_); rintro e w' ⟨rfl, rfl⟩) | (go_at_call 4; refine (place_any TB w.heap.size z (H k) _ (k : Int) T _ (by exact HTt.out) HPW.out hHk hroom.out (by omega) (by omega)).mono ?_; rintro x w2 ⟨rfl, j, hj, h0, hlt0, hw2⟩; have c02 : w2.cell? ⟨SB, k * 8, none⟩ = some (.int .u64 ((H k : Nat) : Int)) := (by rw [hw2]; exact cell_set_other (by intro c; injection c with c1 c2; omega) (cell_set_other (by intro c; injection c with c1 c2; omega) c0)); have HW2 := hide hw2; have HLT := hide hlt0; have H0 := hide h0; clear hw2 hlt0 h0))
            go_wp2_with fail
            go_light
            go_roundw
            case rel =>
              have hst := Filled.step hf hH (show k < z by omega) (show k ≤ 1024 by omega) HTt.out HNZ.out HFD.out HFR.out hj H0.out HLT.out HW2.out
              first | exact ⟨k + 1, by omega, by go_num, hst⟩ | ((repeat apply Exists.intro); exact ⟨⟨k + 1, by omega, by go_num, hst⟩, rfl⟩)
            case measure => simp [intOf]; omega
          · have hke : k = cnt := by omega
            subst hke
            have HFL := hide hfl
            clear hfl
            go_wp2_with fail
            go_ret
            obtain ⟨⟨T, ht, hnz, hfd⟩, hfr⟩ := HFL.out
            exact ⟨z, hfit.out, by omega, Or.inr ⟨hzs, rfl, w.heap.size, T, Nat.le_refl _, ht, hnz, hfd, ⟨hfr.os, hfr.tape, hfr.output, hfr.size, fun i hi hS => hfr.block i hi (by intro c; rcases c with c | c; exact hS c; omega)⟩⟩⟩

set_option maxRecDepth 100000 in
set_option maxHeartbeats 1000000 in
theorem reserve_none (TB SB cnt m : Nat) (a0 : Option Addr) (f : Int) (H : Nat → Nat) (w : World) (hdr : w.cell? ⟨TB, 0, none⟩ = some (.slice a0 0 0)) (hdf : w.frozen? ⟨TB, 0, none⟩ = false) (num : w.cell? ⟨TB, 1, none⟩ = some (.int .i64 cnt)) (nuf : w.frozen? ⟨TB, 1, none⟩ = false)
    (hsl : SlotsIs w SB cnt H) (hST : SB ≠ TB) (hH : ∀ k, H k < 18446744073709551616) (hf : 0 ≤ f ∧ f < 100000) (hc : cnt ≤ 128) (hm : m < 600) :
    Calls Yba.prog 6 #[.pointer (some ⟨TB, 0, none⟩), .int .i64 m, .slice (some ⟨SB, 0, none⟩) cnt cnt, .int .i64 f] w fun x w' =>
      ∃ z, Fits 16 (2 * (cnt + m)) z ∧ 2 * (cnt + m) ≤ z ∧ ((z = 0 ∧ x = .returned (.bool false) ∧ w' = w) ∨
        (z ≠ 0 ∧ x = .returned (.bool true) ∧ ∃ EB T, w.heap.size ≤ EB ∧ TabIs w' TB EB z T (cnt : Int) ∧ nz T z = cnt ∧ (∀ k, k < cnt → Found T z (H k) (ent (H k) (f + k))) ∧ Fr (fun k => k = TB) w w')) := by
  have HSL := hide hsl
  have hTlt : TB < w.heap.size := World.block_lt_of_cell? w _ hdr
  have HF0 := hide (show Fits 16 (2 * (cnt + m)) 16 from ⟨⟨4, by omega, rfl⟩, Nat.le_refl _, fun c => by omega⟩)
  clear hsl
  go_enter Yba.func6, Yba.ntmps6
  go_wp2_with fail
  go_loop [9] (fun z' => ∃ z : Nat, z' = .int .i64 z ∧ Hid (Fits 16 (2 * (cnt + m)) z) ∧ 16 ≤ z ∧ z ≤ 2048) (fun z' => 4096 - (intOf z').toNat)
  case atStart => exact ⟨16, rfl, HF0, by omega, by omega⟩
  case round =>
    obtain ⟨z, rfl, hfit, hz1, hz2⟩ := hrel
    by_cases hlt : z < 2 * (cnt + m)
    · go_wp2_with fail
      go_light
      go_round
      case rel =>
        have hd := hfit.out.double hlt (by omega)
        have hb := hd.1.bd
        exact ⟨z * 2, by go_num, hide hd, by omega, by omega⟩
      case measure => simp [intOf]; omega
    · by_cases hzs : z = 0
      · omega
      · have hb : ((z : Int) == 0) = false := by simp; omega
        obtain ⟨i0, hi, hz0, hz1', hz2'⟩ := info_parts info26
        go_wp2_with (at_make; refine wpList_make_full _ rfl _ _ 22 rfl w.heap.size 26 i0 (.int .u64 0) 1 Yba.underlying22 hi hz0 hz1' .i64 .i64 _ _ z rfl rfl rfl rfl (by rw [hz2']; omega) (by unfold maxLen; omega) (Nat.le_refl _) ?_; intro w1 hown1 hgrow1; have hdr1 := hgrow1.cell hdr (by simp); have num1 := hgrow1.cell num (by simp); have hdf1 : w1.frozen? ⟨TB, 0, none⟩ = false := (World.frozen?_of_block (w := w) (hgrow1.block TB hTlt (by simp))).trans hdf; have nuf1 : w1.frozen? ⟨TB, 1, none⟩ = false := (World.frozen?_of_block (w := w) (hgrow1.block TB hTlt (by simp))).trans nuf)
        generalize hW2 : (w1.setCell ⟨TB, 0, none⟩ (.slice (some ⟨w.heap.size, 0, none⟩) z z)).setCell ⟨TB, 1, none⟩ (.int .i64 0) = W2
        have hF := hide (Filled.start (H := H) (f := f) hdr1 hdf1 num1 nuf1 hTlt hown1 hgrow1 hW2)
        clear hW2 hown1 hgrow1 hdr1 hdf1 num1 nuf1 hi hz0 hz1' hz2'
        go_loopw [45] (fun i wr => ∃ k : Nat, k ≤ cnt ∧ i = .int .i64 k ∧ Filled H f TB w.heap.size z k w wr) (fun i _ => cnt - (intOf i).toNat)
        case atStart => exact ⟨0, by omega, rfl, hF.out⟩
        case round =>
          obtain ⟨k, hk, rfl, hfl⟩ := hrel
          by_cases hkc : k < cnt
          · obtain ⟨T, ht, hnz, hfd⟩ := hfl.tab
            have hcs := HSL.out k hkc
            have hSlt : SB < w.heap.size := World.block_lt_of_cell? w _ hcs
            have c0 := hfl.frm.cell (p := ⟨SB, k * 8, none⟩) (by intro c; rcases c with c | c; exact hST c; exact absurd (show SB = w.heap.size from c) (by omega)) hcs
            have hHk := hH k
            have HTt := hide ht.drew
            have HNZ := hide hnz
            have HFD := hide hfd
            have HFR := hide hfl.frm.drew
            have hroom := hide (nz_room T z (by omega))
            have HPW := hide hfit.out.1
            have hwr : IntKind.i64.wrap (f + (k : Int)) = f + (k : Int) := wrap_i64_in _ (by omega) (by omega)
            clear ht hnz hfd hfl hcs
            go_wp2_with fail
            go_region_held3 (fun W => W.cell? ⟨SB, k * 8, none⟩ = some (.int .u64 ((H k : Nat) : Int))) (first | assumption | go_keep)
              (first | (go_at_call 5; go_must (refine (entry_any _ _ _ (by omega) (by omega) (by omega) (by omega)).mono ?_); rintro e w' ⟨rfl, rfl⟩) | (go_at_call 4; refine (place_any TB w.heap.size z (H k) _ (k : Int) T _ (by exact HTt.out) HPW.out hHk hroom.out (by omega) (by omega)).mono ?_; rintro x w2 ⟨rfl, j, hj, h0, hlt0, hw2⟩; have c02 : w2.cell? ⟨SB, k * 8, none⟩ = some (.int .u64 ((H k : Nat) : Int)) := (by rw [hw2]; exact cell_set_other (by intro c; injection c with c1 c2; omega) (cell_set_other (by intro c; injection c with c1 c2; omega) c0)); have HW2 := hide hw2; have HLT := hide hlt0; have H0 := hide h0; clear hw2 hlt0 h0))
            go_wp2_with fail
            go_light
            go_roundw
            case rel =>
              have hst := Filled.step hf hH (show k < z by omega) (show k ≤ 1024 by omega) HTt.out HNZ.out HFD.out HFR.out hj H0.out HLT.out HW2.out
              first | exact ⟨k + 1, by omega, by go_num, hst⟩ | ((repeat apply Exists.intro); exact ⟨⟨k + 1, by omega, by go_num, hst⟩, rfl⟩)
            case measure => simp [intOf]; omega
          · have hke : k = cnt := by omega
            subst hke
            have HFL := hide hfl
            clear hfl
            go_wp2_with fail
            go_ret
            obtain ⟨⟨T, ht, hnz, hfd⟩, hfr⟩ := HFL.out
            exact ⟨z, hfit.out, by omega, Or.inr ⟨hzs, rfl, w.heap.size, T, Nat.le_refl _, ht, hnz, hfd, ⟨hfr.os, hfr.tape, hfr.output, hfr.size, fun i hi hS => hfr.block i hi (by intro c; rcases c with c | c; exact hS c; omega)⟩⟩⟩

end Go.Proofs.Ybulkasyk

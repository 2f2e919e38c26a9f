/-
  LawS2216BScript (4): the walk.
-/
import Derived.Test.YbulkaswgScriptParts
namespace Go.Proofs.Ybulkaswg
open Go.RowKit Go.Maps

set_option maxRecDepth 100000 in
set_option maxHeartbeats 1000000 in
theorem script_walk (x : Addr) (len cap : Nat) (R L I : Nat → Int) (w : World) (hl : len ≤ 1024) (h0 : 0 < len)
    (hc0 : ∀ i, i < len → w.cell? ⟨x.block, x.off + i * 3, none⟩ = some (.int .u8 (R i)))
    (hc1 : ∀ i, i < len → w.cell? ⟨x.block, x.off + i * 3 + 1, none⟩ = some (.int .u64 (L i)))
    (hc2 : ∀ i, i < len → w.cell? ⟨x.block, x.off + i * 3 + 2, none⟩ = some (.int .u64 (I i)))
    (hxb : x.block < w.heap.size)
    (hR : ∀ i, 0 ≤ R i ∧ R i ≤ 255) :
    Calls Yba.prog 4 #[.slice (some ⟨x.block, x.off, none⟩) len cap] w fun e w' => e = .returned (.bool true) ∧ Below w.heap.size w w' := by
  have hd : decide ((1024 : Int) < (len : Int)) = false := by simp; omega
  go_enter Yba.func4, Yba.ntmps4
  go_wp2
  go_loopw [6, 7] (fun c i wr => ∃ k : Nat, k ≤ len ∧ i = .int .i64 k ∧ c = .int .u64 (clkTo L k) ∧ Inv w R L I k wr) (fun _ i _ => len - (intOf i).toNat)
  case atStart => exact ⟨0, Nat.zero_le _, rfl, rfl, inv_start w R L I⟩
  case round =>
    obtain ⟨k, hk, rfl, rfl, hinv⟩ := hrel
    by_cases hlt : k < len
    · have q0 : wr.cell? ⟨x.block, x.off + k * 3, none⟩ = some (.int .u8 (R k)) := (hinv.bel.cell (p := ⟨x.block, x.off + k * 3, none⟩) hxb).trans (hc0 k hlt)
      have q1 : wr.cell? ⟨x.block, x.off + k * 3 + 1, none⟩ = some (.int .u64 (L k)) := (hinv.bel.cell (p := ⟨x.block, x.off + k * 3 + 1, none⟩) hxb).trans (hc1 k hlt)
      have q2 : wr.cell? ⟨x.block, x.off + k * 3 + 2, none⟩ = some (.int .u64 (I k)) := (hinv.bel.cell (p := ⟨x.block, x.off + k * 3 + 2, none⟩) hxb).trans (hc2 k hlt)
      obtain ⟨j, hj⟩ : ∃ j : Nat, R k % 4 = (j : Int) := ⟨(R k % 4).toNat, by omega⟩
      have hj4 : j < 4 := by omega
      have hRk := hR k
      clear hc0 hc1 hc2 hR
      go_wp2
      generalize hW1 : (wr.alloc (.cells #[.int .u8 (R k), .int .u64 (L k), .int .u64 (I k)] 44)).alloc (.cells #[.int .u64 (L k), .int .u64 (I k)] 40) = W1
      obtain ⟨hinv1, hs1, he1⟩ := round_world hinv hW1
      obtain ⟨m, hB, hT⟩ := hinv1.tal
      have hT' : (m = none ∧ clkTo L k = 0 ∧ idsTo R L I k = 0 ∧ G R L I k = (fun _ => none) ∧ szTo R L I k = 0) ∨ ∃ M, m = some M ∧ Tab W1 M (G R L I k) (szTo R L I k) := by
        rcases hT with ⟨rfl, rfl⟩ | ⟨M, rfl, _, hT⟩
        · exact Or.inl ⟨rfl, rfl, rfl, rfl, rfl⟩
        · exact Or.inr ⟨M, rfl, hT⟩
      have hT'' : m = none ∨ ∃ M f sz, m = some M ∧ w.heap.size + 3 ≤ M ∧ Tab W1 M f sz := by
        rcases hT with ⟨rfl, rfl⟩ | ⟨M, rfl, h3, hT⟩
        · exact Or.inl rfl
        · exact Or.inr ⟨M, _, _, rfl, h3, hT⟩
      have HT := hide hT'
      have HT2 := hide hT''
      have HB := hide hB
      have HS1 := hide hs1
      have HE1 := hide he1
      have HI1 := hide hinv1
      obtain ⟨ce0, ce1⟩ := box_cells he1
      have hsz := szTo_le R L I k
      have hs3 := hinv.siz
      clear hs1 he1 hB hT hT' hT'' hinv hinv1 hW1 q0 q1 q2
      go_region_with (first
        | (go_at_call 9; refine (name_any _ _).mono ?_; rintro e w' ⟨rfl, rfl⟩)
        | (go_at_call 8; go_must (refine (cover_both w.heap.size m (clkTo L k) (idsTo R L I k) (L k) (I k) (nameOf j) (G R L I k) (szTo R L I k) _ (by exact HB.out) (by exact HT.out) (nameOf_le _) (by unfold maxLen; omega)).mono ?_); rintro e w2 ⟨rfl, M, hM, hB2, hT2, hF2⟩))
      all_goals
        obtain ⟨g1, g2, g3, g4, g5, g6⟩ := round_cover HI1.out HT2.out hF2 hs3 HS1.out HE1.out
        obtain ⟨sc0, sc1, sc2⟩ := sbox_cells g3
        obtain ⟨ec0, ec1⟩ := box_cells g4
        obtain ⟨mc0, mc1, mf0, mf1⟩ := mArr_cells g1 j hj4
        obtain ⟨pc0, pf0⟩ := pArr_cells g2 j hj4
        have K1 := hide g1
        have K2 := hide g2
        have K5 := hide g5
        have K6 := hide g6
        have KB := hide hB2
        have KT := hide hT2
        have KM := hide hM
        clear g1 g2 g3 g4 g5 g6 hB2 hT2 hM hF2 ce0 ce1
        go_wp2
        all_goals
          go_light
          go_roundw
          case rel => exact ⟨k + 1, by omega, by go_num, by simp only [clkTo, clockBy]; first | rw [if_pos ‹_›] | rw [if_neg (by omega)], inv_step hj hj4 HT2.out HI1.out K1.out K2.out K5.out K6.out KB.out KT.out KM.out⟩
          case measure => simp [intOf]; omega
    · have hke : k = len := by omega
      subst hke
      obtain ⟨m, hB, hT⟩ := hinv.tal
      have hT' : ∃ M, m = some M ∧ w.heap.size + 3 ≤ M ∧ Tab wr M (G R L I k) (szTo R L I k) := by
        rcases hT with ⟨_, h⟩ | h
        · omega
        · exact h
      obtain ⟨M, rfl, hM3, hTab⟩ := hT'
      have hMlt : M < wr.heap.size := by obtain ⟨es, c, h5⟩ := hTab.isMapBlock; exact (Array.getElem?_eq_some_iff.1 h5).1
      have HB := hide hB
      have HI := hide hinv
      have HTab := hide hTab
      have hs3 := hinv.siz
      have hz : ((k : Int) == 0) = false := by simp; omega
      clear hB hT hinv hTab hc0 hc1 hc2
      go_wp2
      obtain ⟨w1, hw⟩ : ∃ w1 : World, w1 = wr := ⟨_, rfl⟩
      subst hw
      go_loopw [11, 12, 13] (fun s n i wq => ∃ q : Nat, q ≤ 4 ∧ i = .int .i64 q ∧ s = .int .u64 (sumTo (G R L I k) q) ∧ n = .int .i64 (cntTo (G R L I k) q) ∧ Below w1.heap.size w1 wq) (fun _ _ i _ => 4 - (intOf i).toNat)
      case atStart => exact ⟨0, by omega, rfl, rfl, rfl, Below.refl _ _⟩
      case round =>
        obtain ⟨q, hq, rfl, rfl, rfl, hbel⟩ := hrel
        by_cases hq4 : q < 4
        · have p1 := hbel.block (w.heap.size + 1) (by omega)
          have p2 := hbel.block (w.heap.size + 2) (by omega)
          have p3 := hbel.block (w.heap.size) (by omega)
          have p4 := hbel.block M hMlt
          rw [HI.out.mod] at p1
          rw [HI.out.pre] at p2
          rw [HB.out] at p3
          obtain ⟨c0, c1, c2, c3, _, _, _, _⟩ := tally_cells p3
          obtain ⟨mc0, mc1, _, _⟩ := mArr_cells p1 q hq4
          obtain ⟨pc0, _⟩ := pArr_cells p2 q hq4
          unfold exL at mc0
          unfold exI at mc1
          have hTq : Tab wr.drew M (G R L I k) (szTo R L I k) := HTab.out.of_block p4
          have hlook := hTq.look_ok (nameOf q) (nameOf_le _)
          have hTq2 : Tab (wr.alloc (.cells #[.int .u64 0, .int .u64 0] 40)).drew M (G R L I k) (szTo R L I k) := hTq.of_block (Below.heap_alloc _ _ _ (Nat.lt_of_lt_of_le hMlt hbel.size))
          have hlook2 := hTq2.look_ok (nameOf q) (nameOf_le _)
          unfold extV at hlook hlook2
          have hneq := neq40
          have hsz := szTo_le R L I k
          clear p1 p2 p3 p4 hTq hTq2
          have hs4 : w.heap.size + 3 ≤ wr.heap.size := Nat.le_trans hs3 hbel.size
          have c3' : (wr.alloc (.cells #[.int .u64 0, .int .u64 0] 40)).cell? ⟨w.heap.size, 3, none⟩ = some (.map (some M)) := (World.cell?_of_block (w := wr) (Below.heap_alloc _ _ _ (by show w.heap.size < _; omega))).trans c3
          have hcnt := cntTo_le (G R L I k) q
          rw [show (nameOf (q : Int)).data.toList = nm q from rfl] at hlook hlook2
          cases hsome : (G R L I k (nm q)).isSome with
          | true =>
            rw [hsome] at hlook hlook2
            go_wp2
            go_region_with (go_at_call 9; refine (name_any _ _).mono ?_; rintro e w' ⟨rfl, rfl⟩)
            all_goals
              go_wp2
              generalize hW3 : (wr.alloc (.cells #[.int .u64 ((G R L I k (nm q)).getD (0, 0)).1, .int .u64 ((G R L I k (nm q)).getD (0, 0)).2] 40)).drew = W3
              obtain ⟨y1, y2, y3⟩ := got_world hW3
              obtain ⟨b0, b1⟩ := box_cells y1
              have mc0' := (World.cell?_of_block (w := wr) (y2 (w.heap.size + 1) (by omega))).trans mc0
              have mc1' := (World.cell?_of_block (w := wr) (y2 (w.heap.size + 1) (by omega))).trans mc1
              clear hW3 y1 y2
              go_quiet (fail)
              go_wp2
              go_light
              go_roundw
              case rel => exact ⟨q + 1, by omega, by go_num, by simp only [sumTo, hsome, if_true], by simp only [cntTo, hsome, if_true]; go_num, below_drewN (hbel.trans (y3.mono hbel.size)) _⟩
              case measure => simp [intOf]; omega
          | false =>
            go_wp2
            go_light
            go_roundw
            case rel => exact ⟨q + 1, by omega, by go_num, by simp only [sumTo, hsome, Bool.false_eq_true, if_false], by simp only [cntTo, hsome, Bool.false_eq_true, if_false], hbel⟩
            case measure => simp [intOf]; omega
        · have hqe : q = 4 := by omega
          subst hqe
          have p3 := hbel.block (w.heap.size) (by omega)
          have p4 := hbel.block M hMlt
          rw [HB.out] at p3
          obtain ⟨c0, c1, c2, c3, _, _, _, _⟩ := tally_cells p3
          have hTq : Tab wr M (G R L I k) (szTo R L I k) := HTab.out.of_block p4
          obtain ⟨hi, hc⟩ := idsTo_eq R L I (fun i => (hR i).1) k
          have hids : (idsTo R L I k == sumTo (G R L I k) 4) = true := by rw [hi, sumTo_four]; simp
          have hlen := hTq.len 3
          rw [hc] at hlen
          have hfin : Below w.heap.size w wr := HI.out.bel.trans (hbel.mono (by omega))
          have HF := hide hfin
          clear p3 p4 hi hc hTq hfin
          go_wp2
          go_ret
          exact ⟨rfl, HF.out⟩

end Go.Proofs.Ybulkaswg

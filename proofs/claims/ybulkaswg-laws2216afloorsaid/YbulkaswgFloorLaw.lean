/-
  LawS2216AFloor (3): the walk.
-/
import Derived.Test.YbulkaswgFloorPlain
import Derived.Deep.DeepCutAuto
namespace Go.Proofs.Ybulkaswg
open Go.RowKit Go.Shelf

set_option maxRecDepth 100000 in
theorem law_long1 (a0 : Int) (a1 a2 : Option Addr) (len1 cap1 len2 cap2 : Nat) (w : World) (h : 1024 < len1) (_hm : len1 ≤ maxLen) :
    Calls Yba.prog 3 #[.int .u64 a0, .slice a1 len1 cap1, .slice a2 len2 cap2] w fun e w' => e = .returned (.bool true) ∧ Below w.heap.size w w' := by
  have h' : (1024 : Int) < (len1 : Int) := by omega
  go_enter Yba.func3, Yba.ntmps3
  go_wp2_with fail
  go_ret
  exact ⟨rfl, Below.refl _ _⟩

set_option maxRecDepth 100000 in
theorem law_long2 (a0 : Int) (a1 a2 : Option Addr) (len1 cap1 len2 cap2 : Nat) (w : World) (h1 : len1 ≤ 1024) (h : 1024 < len2) (_hm : len2 ≤ maxLen) :
    Calls Yba.prog 3 #[.int .u64 a0, .slice a1 len1 cap1, .slice a2 len2 cap2] w fun e w' => e = .returned (.bool true) ∧ Below w.heap.size w w' := by
  have h1' : ¬ (1024 : Int) < (len1 : Int) := by omega
  have h' : (1024 : Int) < (len2 : Int) := by omega
  go_enter Yba.func3, Yba.ntmps3
  go_wp2_with fail
  go_ret
  exact ⟨rfl, Below.refl _ _⟩

theorem eq_nil (d : Nat) (w : World) : (Op.equalIn (d + 1) 27 (.pointer none) (.pointer none)).run Yba.prog w = .ok true w := by
  rw [Op.equalIn]
  simp [run_underlying Yba.underlying27, Result.andThen]
theorem eq_nil27 (w : World) : (Op.equalIn 9999 27 (.pointer none) (.pointer none)).run Yba.prog w = .ok true w := eq_nil 9998 w

theorem wrap_nat (x : Int) : ∃ q : Nat, IntKind.u64.wrap x = (q : Int) :=
  ⟨(IntKind.u64.wrap x).toNat, by
    have : 0 ≤ IntKind.u64.wrap x := by
      simp [IntKind.wrap, IntKind.bits, IntKind.signed]
      omega
    omega⟩

theorem after_s {C : Nat → Nat} {CB SB len N XB : Nat} {xv u v : Value} {w W2 W3 : World} (h : Ready C CB SB len N XB xv w W2) (hW : W2.alloc (.cells #[u, v] 29) = W3) :
    Hid (Ready C CB SB len N XB xv w W3) ∧ W3.cell? ⟨W2.heap.size, 0, none⟩ = some u ∧ W3.cell? ⟨W2.heap.size, 1, none⟩ = some v := by
  have hn : W3.heap[W2.heap.size]? = some (.cells #[u, v] 29 (0, 0)) := by rw [← hW]; exact World.alloc_heap_new W2 _
  refine ⟨?_, by simp [World.cell?, hn], by simp [World.cell?, hn]⟩
  rw [← hW]
  exact h.below ((Below.refl _ W2).alloc (Nat.le_refl _) _)

set_option maxRecDepth 100000 in
set_option maxHeartbeats 2000000 in
theorem law_main (a0 : Int) (B0 : Nat) (a1 a2 : Option Addr) (len1 cap1 len2 cap2 : Nat) (D : Nat → Nat) (Z : Nat → Int) (C : Nat → Nat) (w : World) (hl1 : len1 ≤ 1024) (hl2 : len2 ≤ 1024) (hB0 : bits .and .u64 a0 4611686018427387903 = (B0 : Int)) (hB : B0 < 4611686018427387904) (hD : ∀ i, D i ≤ 255)
    (hC0 : C 0 = B0) (hCs : ∀ i, C (i + 1) = C i + (D (i + 1) + 1)) (hClt : ∀ i j, i < j → C i < C j) (hCle : ∀ i, C i ≤ B0 + 256 * i)
    (ha1 : 0 < len1 → ∃ b off, a1 = some ⟨b, off, none⟩ ∧ b < w.heap.size ∧ ∀ i, i < len1 → w.cell? ⟨b, off + i, none⟩ = some (.int .u8 (D i : Int)))
    (ha2 : 0 < len2 → ∃ b off, a2 = some ⟨b, off, none⟩ ∧ b < w.heap.size ∧ ∀ i, i < len2 → w.cell? ⟨b, off + i, none⟩ = some (.int .i64 (Z i))) :
    Calls Yba.prog 3 #[.int .u64 a0, .slice a1 len1 cap1, .slice a2 len2 cap2] w fun e w' => e = .returned (.bool true) ∧ Below w.heap.size w w' := by
  have h1' : ¬ (1024 : Int) < (len1 : Int) := by omega
  have h2' : ¬ (1024 : Int) < (len2 : Int) := by omega
  obtain ⟨i22, hi22, hz22, hs22, hb22⟩ := info_parts info22
  obtain ⟨i29, hi29, hz29, hs29, hb29⟩ := info_parts info29
  obtain ⟨w1, hmk1, hown1, hgr1⟩ := run_makeSlice_full (P := Yba.prog) (w := w) w.heap.size 25 22 i22 _ 1 Yba.underlying25 hi22 hz22 hs22 .i64 .i64 len1 (by omega) (by rw [hb22]; omega) (by unfold maxLen; omega) (Nat.le_refl _)
  obtain ⟨w2, hmk2, hown2, hgr2⟩ := run_makeSlice_full (P := Yba.prog) (w := w1) w.heap.size 26 29 i29 _ 2 Yba.underlying26 hi29 hz29 hs29 .i64 .i64 len1 (by omega) (by rw [hb29]; omega) (by unfold maxLen; omega) hgr1.size
  have HFL := hide (Filling.start (C := C) hown1 hgr1 hown2 hgr2)
  generalize hCB : w.heap.size = CB at HFL hmk1
  generalize hSB : w1.heap.size = SB at HFL hmk2
  have HCB := hide hCB
  have HC0 := hide hC0
  have HCs := hide hCs
  have HClt := hide hClt
  have HCle := hide hCle
  have HA1 := hide ha1
  have HA2 := hide ha2
  have HD := hide hD
  clear hown1 hgr1 hown2 hgr2 hi22 hz22 hs22 hb22 hi29 hz29 hs29 hb29 hC0 hCs hClt hCle ha1 ha2 hD hCB hSB
  go_enter Yba.func3, Yba.ntmps3
  go_wp2_with fail
  clear hmk1 hmk2
  go_loopw [9, 10] (fun c i wr => ∃ k : Nat, k ≤ len1 ∧ i = .int .i64 (k : Int) ∧ c = .int .u64 (C (k - 1) : Int) ∧ Filling C CB SB len1 k w wr) (fun _ i _ => len1 - (intOf i).toNat)
  case atStart => exact ⟨0, by omega, rfl, by rw [show C (0 - 1) = B0 from HC0.out], HFL.out⟩
  case round =>
    obtain ⟨k, hk, rfl, rfl, hfl⟩ := hrel
    by_cases hlt : k < len1
    · have hlt' : (k : Int) < (len1 : Int) := by omega
      obtain ⟨vc, c1⟩ := hfl.cs k hlt
      have c2 := hfl.cf k
      obtain ⟨vs, c3⟩ := hfl.s0 k hlt
      have c4 := hfl.s1 k hlt
      have c5 := hfl.sf (k * 2)
      have c6 := hfl.sf (k * 2 + 1)
      have hne := hfl.ne
      have HF := hide hfl
      by_cases hk0 : k = 0
      · subst hk0
        have c3' : wr.cell? ⟨SB, 0, none⟩ = some vs := c3
        have c4' : wr.cell? ⟨SB, 1, none⟩ = some (.pointer none) := c4
        have c5' : wr.frozen? ⟨SB, 0, none⟩ = false := c5
        have c6' : wr.frozen? ⟨SB, 1, none⟩ = false := c6
        clear hfl c3 c4 c5 c6
        go_wp2_with fail
        refine ⟨⟨1, by omega, rfl, rfl, HF.out.step hlt⟩, by simp only [intOf]; omega⟩
      · have hk0' : (0 : Int) < (k : Int) := by omega
        obtain ⟨b1, o1, rfl, hb1, hc1⟩ := HA1.out (by omega)
        have d1 := (hfl.bel.cell (p := ⟨b1, o1 + k, none⟩) hb1).trans (hc1 k hlt)
        have hDk := HD.out k
        have hCk := HCle.out (k - 1)
        have hCe : C k = C (k - 1) + (D k + 1) := by
          have := HCs.out (k - 1)
          rwa [show k - 1 + 1 = k by omega] at this
        have HCe := hide hCe
        clear hfl hc1 hb1 hCe
        go_wp2_with fail
        rw [show (C (k - 1) : Int) + ((D k : Int) + 1) = (C k : Int) by rw [HCe.out]; omega]
        refine ⟨⟨k + 1, by omega, by go_num, by rw [show k + 1 - 1 = k by omega], HF.out.step hlt⟩, by simp only [intOf]; omega⟩
    · obtain rfl : k = len1 := by omega
      have hlt' : ¬ (k : Int) < (k : Int) := by omega
      have HF := hide hfl
      clear hfl
      go_upto_if 62 with (fail)
      go_cut [11] (fun xv wx => ∃ XB, Ready C CB SB k ((k + 63) / 64) XB xv w wx)
      case first =>
        by_cases hk0 : k = 0
        · have hk0' : ¬ (0 : Int) < (k : Int) := by omega
          have HK := hide hk0
          clear hk0
          go_wp2_with fail
          go_meet
          case rel => exact ⟨SB, HF.out.bel, HF.out.clt, HF.out.cl, HF.out.ne, HF.out.slo, .inl ⟨HK.out, rfl⟩⟩
        · have hk0' : (0 : Int) < (k : Int) := by omega
          have hnew := new6 C SB k ((k + 63) / 64) (by omega) hl1 rfl wr HF.out.slt (fun i hi => by rw [show 2 * i = i * 2 by omega]; exact ⟨HF.out.sl i hi, HF.out.s1 i hi⟩)
          go_wp2_with (go_at_call 6; refine hnew.mono ?_; rintro e W' ⟨XB, NB, RB, g, rfl, hb, hx, hT⟩)
          go_meet
          case rel =>
            have hs := HF.out.clt
            have hw := HF.out.bel.size
            exact ⟨XB, HF.out.bel.trans (hb.mono hw), Nat.lt_of_lt_of_le hs hb.size, fun i hi => (hb.cell (p := ⟨CB, i, none⟩) hs).trans (HF.out.cl i hi), by omega, by omega, .inr ⟨by omega, rfl, NB, RB, g, none, none, hT⟩⟩
      case rest =>
        obtain ⟨XB, hrd⟩ := hcut
        have HR := hide hrd
        clear hrd HF HFL HA1 HC0 HCs HCle HD
        go_wp2_with fail
        go_loopw [12] (fun j wr => ∃ t : Nat, t ≤ len2 ∧ j = .int .i64 (t : Int) ∧ Ready C CB SB k ((k + 63) / 64) XB u11 w wr) (fun j _ => len2 - (intOf j).toNat)
        case atStart => exact ⟨0, by omega, rfl, HR.out⟩
        case round =>
          clear HR
          obtain ⟨t, ht, rfl, hrd⟩ := hrel
          by_cases htl : t < len2
          · have htl' : (t : Int) < (len2 : Int) := by omega
            obtain ⟨b2, o2, rfl, hb2, hc2⟩ := HA2.out (by omega)
            have d2 := (hrd.bel.cell (p := ⟨b2, o2 + t, none⟩) hb2).trans (hc2 t htl)
            have HR := hide hrd
            clear hrd hc2 hb2
            go_upto_region 21 with (fail)
            obtain ⟨q, hq⟩ : ∃ q : Nat, IntKind.u64.wrap ((B0 : Int) + IntKind.u64.wrap (Z t)) = (q : Int) := wrap_nat _
            rw [hq]
            clear hq d2
            rcases last_or C k q with hA | ⟨m, hm⟩
            · have hfl := floor_none rfl HR.out q hA
              have HA := hide hA
              clear hA HR
              go_wp2_with (go_at_call 7; refine hfl.mono ?_; rintro e W2 ⟨rfl, hrd2⟩)
              generalize hW3 : W2.alloc (.cells #[.int .u64 0, .pointer none] 29) = W3
              obtain ⟨HR3, s0, s1⟩ := after_s hrd2 hW3
              generalize hSS : W2.heap.size = SS at s0 s1 ⊢
              clear hrd2 hW3 hfl hSS
              go_loop [16, 17] (fun want i => ∃ r : Nat, r ≤ k ∧ i = .int .i64 (r : Int) ∧ want = .int .i64 (-1)) (fun _ i => k - (intOf i).toNat)
              case atStart => exact ⟨0, by omega, rfl, rfl⟩
              case round =>
                obtain ⟨r, hr, rfl, rfl⟩ := hrel
                by_cases hrk : r < k
                · have hrk' : (r : Int) < (k : Int) := by omega
                  have e1 := HR3.out.cl r hrk
                  have e2 := HA.out r hrk
                  have e3 : ¬ (C r : Int) ≤ (q : Int) := by omega
                  go_wp2_with fail
                  exact ⟨⟨r + 1, by omega, by go_num, rfl⟩, by simp only [intOf]; omega⟩
                · have hrk' : ¬ (r : Int) < (k : Int) := by omega
                  have heq := eq_nil27 W3
                  go_wp2_with fail
                  exact ⟨⟨t + 1, by omega, by go_num, HR3.out⟩, by simp only [intOf]; omega⟩
            · have hfl := floor_some rfl hl1 HClt.out HR.out q m hm
              have HM := hide hm
              have hmk := hm.1
              clear hm HR
              go_wp2_with (go_at_call 7; refine hfl.mono ?_; rintro e W2 ⟨rfl, hrd2⟩)
              generalize hW3 : W2.alloc (.cells #[.int .u64 (C m : Int), .pointer none] 29) = W3
              obtain ⟨HR3, s0, s1⟩ := after_s hrd2 hW3
              generalize hSS : W2.heap.size = SS at s0 s1 ⊢
              clear hrd2 hW3 hfl hSS
              go_loop [16, 17] (fun want i => ∃ r : Nat, r ≤ k ∧ i = .int .i64 (r : Int) ∧ want = .int .i64 (((min r (m + 1) : Nat) : Int) - 1)) (fun _ i => k - (intOf i).toNat)
              case atStart => exact ⟨0, by omega, rfl, by simp⟩
              case round =>
                obtain ⟨r, hr, rfl, rfl⟩ := hrel
                by_cases hrk : r < k
                · have hrk' : (r : Int) < (k : Int) := by omega
                  have e1 := HR3.out.cl r hrk
                  have e2 := HM.out.le_iff HClt.out r hrk
                  by_cases hrm : r ≤ m
                  · have e3 : (C r : Int) ≤ (q : Int) := by have := e2.2 hrm; omega
                    clear e2
                    go_wp2_with fail
                    exact ⟨⟨r + 1, by omega, by go_num, by congr 1; omega⟩, by simp only [intOf]; omega⟩
                  · have e3 : ¬ (C r : Int) ≤ (q : Int) := by have := fun h => hrm (e2.1 h); omega
                    clear e2
                    go_wp2_with fail
                    exact ⟨⟨r + 1, by omega, by go_num, by congr 1; omega⟩, by simp only [intOf]; omega⟩
                · have hrk' : ¬ (r : Int) < (k : Int) := by omega
                  rw [show ((min r (m + 1) : Nat) : Int) - 1 = (m : Int) by omega]
                  have e1 := HR3.out.cl m hmk
                  have e4 : ¬ (m : Int) < 0 := by omega
                  go_upto_region 31 with (fail)
                  go_quiet (fail)
                  go_wp2_with fail
                  exact ⟨⟨t + 1, by omega, by go_num, HR3.out.below (drewN_below W3 nq)⟩, by simp only [intOf]; omega⟩
          · have htl' : ¬ (t : Int) < (len2 : Int) := by omega
            have HR := hide hrd
            clear hrd
            go_wp2_with fail
            go_ret
            exact ⟨rfl, HCB.out ▸ HR.out.bel⟩

/-- All inputs together. -/
theorem law_floor (a0 : Int) (a1 a2 : Option Addr) (len1 cap1 len2 cap2 : Nat) (D : Nat → Nat) (Z : Nat → Int) (w : World) (h0 : 0 ≤ a0 ∧ a0 ≤ 18446744073709551615) (hm1 : len1 ≤ maxLen) (hm2 : len2 ≤ maxLen) (hD : ∀ i, D i ≤ 255)
    (ha1 : 0 < len1 → ∃ b off, a1 = some ⟨b, off, none⟩ ∧ b < w.heap.size ∧ ∀ i, i < len1 → w.cell? ⟨b, off + i, none⟩ = some (.int .u8 (D i : Int)))
    (ha2 : 0 < len2 → ∃ b off, a2 = some ⟨b, off, none⟩ ∧ b < w.heap.size ∧ ∀ i, i < len2 → w.cell? ⟨b, off + i, none⟩ = some (.int .i64 (Z i))) :
    Calls Yba.prog 3 #[.int .u64 a0, .slice a1 len1 cap1, .slice a2 len2 cap2] w fun e w' => e = .returned (.bool true) ∧ Below w.heap.size w w' := by
  by_cases h1 : 1024 < len1
  · exact law_long1 a0 a1 a2 len1 cap1 len2 cap2 w h1 hm1
  · by_cases h2 : 1024 < len2
    · exact law_long2 a0 a1 a2 len1 cap1 len2 cap2 w (by omega) h2 hm2
    · obtain ⟨B0, hB0, hB⟩ := base_and a0 h0.1 h0.2
      exact law_main a0 B0 a1 a2 len1 cap1 len2 cap2 D Z (ctr B0 D) w (by omega) (by omega) hB0 hB hD rfl (fun _ => rfl) (ctr_lt B0 D) (ctr_le B0 D hD) ha1 ha2

end Go.Proofs.Ybulkaswg

/-
  LawS2220CReserve (3): the walk.
-/
import Derived.Test.YbulkasykReserve
import Derived.Laws.CopyOwn
import Derived.Deep.DeepCutAuto
namespace Go.Proofs.Ybulkasyk
open Go.RowKit

theorem info30 : (Yba.prog.info? 30).map (fun i => (i.zero, i.size, i.bytes)) = some (some (.agg #[.int .u64 0, .int .i32 0, .int .i32 0, .int .i32 0, .int .i32 0, .int .i32 0, .int .i32 0, .bool false]), 8, 40) := by kernel_rfl

/-- The slots while their hashes are laid. -/
structure Laying (H : Nat → Nat) (SB cnt k : Nat) (w wr : World) : Prop where
  bel : Below w.heap.size w wr
  lt : SB < wr.heap.size
  all : ∀ i, i < cnt → (∃ v, wr.cell? ⟨SB, i * 8, none⟩ = some v) ∧ wr.frozen? ⟨SB, i * 8, none⟩ = false
  laid : ∀ i, i < k → wr.cell? ⟨SB, i * 8, none⟩ = some (.int .u64 ((H i : Nat) : Int))

theorem Laying.start {H : Nat → Nat} {cnt : Nat} {w w1 : World} (h : w1.ownsRow w.heap.size 30 8 (.slice (some ⟨w.heap.size, 0, none⟩) cnt cnt) cnt (madeCells (Value.agg #[.int .u64 0, .int .i32 0, .int .i32 0, .int .i32 0, .int .i32 0, .int .i32 0, .int .i32 0, .bool false]).cells (cnt * 8)).toList) (hg : w.grownBy w1 none) :
    Laying H w.heap.size cnt 0 w w1 := by
  have hlt : w.heap.size < w1.heap.size := by
    rcases h.2 with ⟨h', _⟩ | ⟨g', cap', cur, h', _, hg, _⟩
    · simp at h'
    · simp only [Value.slice.injEq, Option.some.injEq, Addr.mk.injEq, and_true, true_and] at h'
      obtain ⟨rfl, _⟩ := h'
      exact (Array.getElem?_eq_some_iff.1 hg).1
  refine ⟨(Below.refl _ _).grown hg (Nat.le_refl _) (fun k e => by cases e), hlt, fun i hi => ⟨?_, h.frozenAt _⟩, fun i hi => by omega⟩
  rw [h.cellAt (i * 8) (by omega)]
  have hl : i * 8 < (madeCells (Value.agg #[.int .u64 0, .int .i32 0, .int .i32 0, .int .i32 0, .int .i32 0, .int .i32 0, .int .i32 0, .bool false]).cells (cnt * 8)).toList.length := by
    simp [madeCells]; omega
  exact ⟨_, List.getElem?_eq_getElem hl⟩

theorem Laying.step {H : Nat → Nat} {SB cnt k : Nat} {w wr : World} (h : Laying H SB cnt k w wr) (hk : k < cnt) (hS : w.heap.size ≤ SB) : Laying H SB cnt (k + 1) w (wr.setCell ⟨SB, k * 8, none⟩ (.int .u64 ((H k : Nat) : Int))) := by
  refine ⟨h.bel.setCell hS _, by simpa [World.setCell] using h.lt, fun i hi => ⟨?_, frozen_set (h.all i hi).2⟩, fun i hi => ?_⟩
  · obtain ⟨v, hv⟩ := (h.all i hi).1
    by_cases c : i = k
    · subst c; exact ⟨_, World.cell?_setCell_same _ _ _ hv⟩
    · exact ⟨v, cell_set_other (by intro c'; injection c' with c1 c2; omega) hv⟩
  · by_cases c : i = k
    · subst c
      obtain ⟨v, hv⟩ := (h.all i hk).1
      exact World.cell?_setCell_same _ _ _ hv
    · exact cell_set_other (by intro c'; injection c' with c1 c2; omega) (h.laid i (by omega))

/-- The table's header laid. -/
theorem head_world {H : Nat → Nat} {SB cnt : Nat} {w wr W0 : World} (h : Laying H SB cnt cnt w wr) (hS : w.heap.size ≤ SB) (hW : wr.alloc (.cells #[.slice none 0 0, .int .i64 0] 33) = W0) :
    W0.cell? ⟨wr.heap.size, 0, none⟩ = some (.slice none 0 0) ∧ W0.frozen? ⟨wr.heap.size, 0, none⟩ = false ∧ W0.cell? ⟨wr.heap.size, 1, none⟩ = some (.int .i64 ((0 : Nat) : Int)) ∧ W0.frozen? ⟨wr.heap.size, 1, none⟩ = false ∧ Below w.heap.size w W0 ∧ SlotsIs W0 SB cnt H ∧ W0.heap.size = wr.heap.size + 1 := by
  subst hW
  have hn := (MapKept.heap_alloc wr (.cells #[.slice none 0 0, .int .i64 0] 33)).1
  have hlt := h.lt
  refine ⟨?_, ?_, ?_, ?_, h.bel.alloc (by omega) _, fun i hi => ?_, World.size_alloc _ _⟩
  · simp only [World.cell?, hn]; rfl
  · simp only [World.frozen?, hn]; rfl
  · simp only [World.cell?, hn]; rfl
  · simp only [World.frozen?, hn]; rfl
  · exact (World.cell?_of_block (w := wr) (Below.heap_alloc _ _ _ hlt)).trans (h.laid i hi)

/-- The new table, its count there already. -/
theorem Filled.start' {H : Nat → Nat} {f : Int} {TB s : Nat} {a0 : Option Addr} {l0 c0 : Nat} {w w1 W2 : World} (hdr : w1.cell? ⟨TB, 0, none⟩ = some (.slice a0 l0 c0)) (hdf : w1.frozen? ⟨TB, 0, none⟩ = false) (num : w1.cell? ⟨TB, 1, none⟩ = some (.int .i64 ((0 : Nat) : Int))) (nuf : w1.frozen? ⟨TB, 1, none⟩ = false)
    (hT : TB < w.heap.size) (hown : w1.ownsRow w.heap.size 26 1 (.slice (some ⟨w.heap.size, 0, none⟩) s s) s (madeCells (Value.int .u64 0).cells (s * 1)).toList) (hg : w.grownBy w1 none)
    (hW : w1.setCell ⟨TB, 0, none⟩ (.slice (some ⟨w.heap.size, 0, none⟩) s s) = W2) : Filled H f TB w.heap.size s 0 w W2 := by
  obtain ⟨hc, hfz, hlt⟩ := made_row hown
  subst hW
  refine ⟨⟨fun _ => 0, ⟨?_, frozen_set hdf, ?_, frozen_set nuf, fun i hi => ?_, fun i hi => frozen_set (hfz i hi), by omega⟩, nz_zero s, fun k hk => by omega⟩, ?_⟩
  · exact World.cell?_setCell_same _ _ _ hdr
  · exact cell_set_other (by intro c; injection c with c1 c2; omega) num
  · exact cell_set_other (by intro c; injection c with c1 c2; omega) (hc i hi)
  · exact ((Fr.refl _ w).grown hg).set (Or.inl rfl) _

theorem size26 : (Yba.prog.info? 26).map (·.size) = some 1 := by kernel_rfl

theorem made_list {w' : World} {base g s : Nat} (h : w'.ownsRow base 26 1 (.slice (some ⟨g, 0, none⟩) s s) s (madeCells (Value.int .u64 0).cells (s * 1)).toList) :
    ∃ cur : List Value, w'.heap[g]? = some (.cells cur.toArray 26 (0, 0)) ∧ cur.length = s := by
  rcases h.2 with ⟨h', _⟩ | ⟨g', cap', cur, h', _, hg, _, _, hsz, _⟩
  · simp at h'
  · simp only [Value.slice.injEq, Option.some.injEq, Addr.mk.injEq, and_true, true_and] at h'
    obtain ⟨rfl, rfl⟩ := h'
    exact ⟨cur.toList, by simpa using hg, by simpa using hsz⟩

theorem range_map_get {L j : Nat} {g : Nat → Value} {v : Value} (h : ((List.range L).map g)[j]? = some v) : ∃ _ : j < L, v = g j := by
  have hl : j < ((List.range L).map g).length := (List.getElem?_eq_some_iff.1 h).1
  have hjl : j < L := by simpa using hl
  refine ⟨hjl, ?_⟩
  rw [List.getElem?_map, List.getElem?_range hjl] at h
  exact (Option.some.inj h).symm

theorem TabIs.of_fr {S : Nat → Prop} {w w' : World} {TB EB s : Nat} {T : Nat → Int} {n : Int} (h : TabIs w TB EB s T n) (hf : Fr S w w') (h1 : TB < w.heap.size) (h2 : EB < w.heap.size) (hs1 : ¬ S TB) (hs2 : ¬ S EB) : TabIs w' TB EB s T n :=
  ⟨hf.cell (p := ⟨TB, 0, none⟩) hs1 h.hdr, hf.frozen (p := ⟨TB, 0, none⟩) h1 hs1 h.hdf, hf.cell (p := ⟨TB, 1, none⟩) hs1 h.num, hf.frozen (p := ⟨TB, 1, none⟩) h1 hs1 h.nuf, fun i hi => hf.cell (p := ⟨EB, i, none⟩) hs2 (h.ent i hi), fun i hi => hf.frozen (p := ⟨EB, i, none⟩) h2 hs2 (h.enf i hi), h.ne⟩

theorem before_world {T : Nat → Int} {L : Nat} {cs cur : List Value} {wr w1 w2 : World} (hcs : cs = (List.range L).map (fun i => Value.int .u64 (T i))) (hl : cs.length = L) (hc : cur.length = L) (hg : w2.heap[wr.heap.size]? = some (.cells (splice cur 0 cs).toArray 26 (0, 0)))
    (hb : Below wr.heap.size w1 w2) (hf : Fr (fun _ => False) wr w1) : (∀ i, i < L → w2.cell? ⟨wr.heap.size, i, none⟩ = some (.int .u64 (T i))) ∧ Fr (fun _ => False) wr w2 := by
  refine ⟨fun i hi => ?_, ⟨hb.os.trans hf.os, hb.tape.trans hf.tape, hb.output.trans hf.output, Nat.le_trans hf.size hb.size, fun k hk hS => (hb.block k hk).trans (hf.block k hk hS)⟩⟩
  have e : splice cur 0 cs = cs := by
    unfold splice
    rw [hl, Nat.zero_add, ← hc]
    simp
  rw [e, hcs] at hg
  simp only [World.cell?, hg]
  simp [hi]

theorem TabIs.drewN {w : World} {TB EB s : Nat} {T : Nat → Int} {n : Int} (h : TabIs w TB EB s T n) (k : Nat) : TabIs (w.drewN k) TB EB s T n := ⟨h.hdr, h.hdf, h.num, h.nuf, h.ent, h.enf, h.ne⟩

theorem pow_and {s : Nat} (h : Pow s) : bits .and .i64 (s : Int) ((s : Int) - 1) = 0 := by
  obtain ⟨a, ha, rfl⟩ := h
  match a, ha with
  | 0, _ | 1, _ | 2, _ | 3, _ | 4, _ | 5, _ | 6, _ | 7, _ | 8, _ | 9, _ | 10, _ | 11, _ => decide

set_option maxRecDepth 100000 in
set_option maxHeartbeats 2000000 in
theorem law_big (a0 a2 a3 : Int) (a : Option Addr) (len cap kk m L cnt : Nat) (f : Int) (H : Nat → Nat) (w : World) (hl : len ≤ 1024)
    (h0 : 0 ≤ a0 ∧ a0 ≤ 255) (h2 : 0 ≤ a2 ∧ a2 ≤ 65535) (h3 : 0 ≤ a3 ∧ a3 ≤ 4294967295) (hk : a0 % 6 = (kk : Int)) (hm : a2 % 600 = (m : Int)) (hf : a3 % 100000 = f) (hkk : 1 ≤ kk)
    (hLw : wrap64 (16 * 2 ^ (kk - 1)) = (L : Int)) (hL1 : 16 ≤ L) (hL2 : L ≤ 256) (hLp : Pow L) (hcnt : cnt = min len (L / 2))
    (ha : 0 < len → ∃ b off, a = some ⟨b, off, none⟩ ∧ b < w.heap.size ∧ ∀ i, i < len → w.cell? ⟨b, off + i, none⟩ = some (.int .u64 ((H i : Nat) : Int))) (hH : ∀ k, H k < 18446744073709551616) :
    Calls Yba.prog 3 #[.int .u8 a0, .slice a len cap, .int .u16 a2, .int .u32 a3] w fun e w' => e = .returned (.bool true) ∧ Below w.heap.size w w' := by
  have hk5 : kk ≤ 5 := by omega
  have hm6 : m < 600 := by omega
  have hf0 : 0 ≤ f ∧ f < 100000 := by omega
  have hc1 : cnt ≤ len := by omega
  have hc2 : 2 * cnt ≤ L := by omega
  have HC := hide hcnt
  have HA := hide ha
  have HLP := hide hLp
  clear hcnt ha hLp
  go_enter Yba.func3, Yba.ntmps3
  go_upto_if 43 with (fail)
  go_cut [11] (fun s wx => s = .int .i64 (cnt : Int) ∧ wx = w)
  case first =>
    go_wp2_with fail
    all_goals
      go_meet
      case rel => exact ⟨by have := HC.out; go_num, rfl⟩
  case rest =>
    obtain ⟨rfl, rfl⟩ := hcut
    obtain ⟨i0, hi, hz0, hz1', hz2'⟩ := info_parts info30
    go_wp2_with (at_make; refine wpList_make_full _ rfl _ _ 25 rfl wc.heap.size 30 i0 _ 8 Yba.underlying25 hi hz0 hz1' .i64 .i64 _ _ cnt rfl rfl rfl rfl (by rw [hz2']; omega) (by unfold maxLen; omega) (Nat.le_refl _) ?_; intro w1 hown1 hgrow1)
    have hLY := hide (Laying.start (H := H) hown1 hgrow1)
    clear hown1 hgrow1 hi hz0 hz1' hz2'
    go_loopw [13] (fun i wr => ∃ k : Nat, k ≤ cnt ∧ i = .int .i64 k ∧ Laying H wc.heap.size cnt k wc wr) (fun i _ => cnt - (intOf i).toNat)
    case atStart => exact ⟨0, by omega, rfl, hLY.out⟩
    case round =>
      obtain ⟨k, hkc, rfl, hly⟩ := hrel
      by_cases hlt : k < cnt
      · obtain ⟨b, off, rfl, hbw, hcs⟩ := HA.out (by omega)
        have c0 : wr.cell? ⟨b, off + k, none⟩ = some (.int .u64 ((H k : Nat) : Int)) := (hly.bel.cell (p := ⟨b, off + k, none⟩) hbw).trans (hcs k (by omega))
        obtain ⟨⟨v, c1⟩, f1⟩ := hly.all k hlt
        have HLY := hide (hly.step hlt (Nat.le_refl _))
        clear hcs hly
        go_wp2_with fail
        go_light
        go_roundw
        case rel => exact ⟨k + 1, by omega, by go_num, HLY.out⟩
        case measure => simp [intOf]; omega
      · have hke : cnt = k := by omega
        subst hke
        have hSB := hly.lt
        have HLY := hide hly
        obtain ⟨i0, hi, hz0, hz1', hz2'⟩ := info_parts info26
        clear hly
        go_upto_region 18 with (fail)
        generalize hW0 : wr.alloc (.cells #[.slice none 0 0, .int .i64 0] 33) = W0
        obtain ⟨hdr, hdf, num, nuf, hbel, hsl, hsz⟩ := head_world HLY.out (Nat.le_refl _) hW0
        clear HLY hW0
        generalize hTB : wr.heap.size = TB at hSB hdr hdf num nuf hsz ⊢
        generalize hSBe : wc.heap.size = SB at hSB hsl ⊢
        have HSB := hide hSBe
        clear hTB hSBe wr
        have hTlt : TB < W0.heap.size := by omega
        have HSL := hide hsl
        have HBL := hide hbel
        have HSZ := hide hsz
        clear hsl hbel hsz
        go_wp2_with (at_make; refine wpList_make_full _ rfl _ _ 22 rfl W0.heap.size 26 i0 (.int .u64 0) 1 Yba.underlying22 hi hz0 hz1' .i64 .i64 _ _ L rfl rfl rfl rfl (by rw [hz2']; omega) (by unfold maxLen; omega) (Nat.le_refl _) ?_; intro w1 hown1 hgrow1; have hdr1 := hgrow1.cell hdr (by simp); have num1 := hgrow1.cell num (by simp); have hdf1 : w1.frozen? ⟨TB, 0, none⟩ = false := (World.frozen?_of_block (w := W0) (hgrow1.block TB hTlt (by simp))).trans hdf; have nuf1 : w1.frozen? ⟨TB, 1, none⟩ = false := (World.frozen?_of_block (w := W0) (hgrow1.block TB hTlt (by simp))).trans nuf)
        generalize hW2 : w1.setCell ⟨TB, 0, none⟩ (.slice (some ⟨W0.heap.size, 0, none⟩) L L) = W2
        have hF := hide (Filled.start' (H := H) (f := f) hdr1 hdf1 num1 nuf1 hTlt hown1 hgrow1 hW2)
        clear hW2 hown1 hgrow1 hdr1 hdf1 num1 nuf1
        go_loopw [75] (fun i wr => ∃ k : Nat, k ≤ cnt ∧ i = .int .i64 k ∧ Filled H f TB W0.heap.size L k W0 wr) (fun i _ => cnt - (intOf i).toNat)
        case atStart => exact ⟨0, by omega, rfl, hF.out⟩
        case round =>
          obtain ⟨k, hk, rfl, hfl⟩ := hrel
          by_cases hkc : k < cnt
          · obtain ⟨T, ht, hnz, hfd⟩ := hfl.tab
            have hcs := HSL.out k hkc
            have c0 := hfl.frm.cell (p := ⟨SB, k * 8, none⟩) (by intro c; rcases c with c | c; exact absurd (show SB = TB from c) (by omega); exact absurd (show SB = W0.heap.size from c) (by omega)) hcs
            have hHk := hH k
            have HTt := hide ht.drew
            have HNZ := hide hnz
            have HFD := hide hfd
            have HFR := hide hfl.frm.drew
            have hroom := hide (nz_room T L (by omega))
            have hwr : IntKind.i64.wrap (f + (k : Int)) = f + (k : Int) := wrap_i64_in _ (by omega) (by omega)
            clear ht hnz hfd hfl hcs
            go_wp2_with fail
            go_region_held3 (fun W => W.cell? ⟨SB, k * 8, none⟩ = some (.int .u64 ((H k : Nat) : Int))) (first | assumption | go_keep)
              (first | (go_at_call 5; refine (entry_any _ _ _ (by omega) (by omega) (by omega) (by omega)).mono ?_; rintro e w' ⟨rfl, rfl⟩) | (go_at_call 4; refine (place_any TB W0.heap.size L (H k) _ (k : Int) T _ (by exact HTt.out) HLP.out hHk hroom.out (by omega) (by omega)).mono ?_; rintro x w2 ⟨rfl, j, hj, h0', hlt0, hw2⟩; have c02 : w2.cell? ⟨SB, k * 8, none⟩ = some (.int .u64 ((H k : Nat) : Int)) := (by rw [hw2]; exact cell_set_other (by intro c; injection c with c1 c2; omega) (cell_set_other (by intro c; injection c with c1 c2; omega) c0)); have HW2 := hide hw2; have HLT := hide hlt0; have H0 := hide h0'; clear hw2 hlt0 h0'))
            go_wp2_with fail
            go_light
            go_roundw
            case rel =>
              have hst := Filled.step hf0 hH (show k < L by omega) (show k ≤ 1024 by omega) HTt.out HNZ.out HFD.out HFR.out hj H0.out HLT.out HW2.out
              first | exact ⟨k + 1, by omega, by go_num, hst⟩ | ((repeat apply Exists.intro); exact ⟨⟨k + 1, by omega, by go_num, hst⟩, rfl⟩)
            case measure => simp [intOf]; omega
          · have hke : cnt = k := by omega
            subst hke
            obtain ⟨⟨T, ht, hnz, hfd⟩, hfr⟩ := hfl
            have HT := hide ht
            have HNZ := hide hnz
            have HFR := hide hfr
            have hdr := ht.hdr
            have num := ht.num
            have nuf := ht.nuf
            have hdf := ht.hdf
            have hEB : W0.heap.size < wr.heap.size := World.block_lt_of_cell? wr _ (ht.ent 0 (by omega))
            clear hfd ht hnz hfr
            go_upto_region 25 with (fail)
            go_upto_region 26 with (at_make; refine wpList_make_full _ rfl _ _ 22 rfl wr.heap.size 26 i0 (.int .u64 0) 1 Yba.underlying22 hi hz0 hz1' .i64 .i64 _ _ L rfl rfl rfl rfl (by rw [hz2']; omega) (by unfold maxLen; omega) (Nat.le_refl _) ?_; intro w1 hown1 hgrow1)
            have hdr1 := hgrow1.cell hdr (by simp)
            obtain ⟨cur, hcur, hclen⟩ := made_list hown1
            have hB1 := hide (show Fr (fun _ => False) wr w1 from (Fr.refl _ wr).grown hgrow1)
            obtain ⟨cs, hcs⟩ : ∃ cs : List Value, cs = (List.range L).map (fun i => Value.int .u64 (T i)) := ⟨_, rfl⟩
            have hcsl : cs.length = L := by rw [hcs]; simp
            have hsrc : 0 < cs.length → (some (⟨wr.heap.size, 0, none⟩ : Addr)) = some ⟨wr.heap.size, 0, none⟩ ∧ ∃ ad, (some (⟨W0.heap.size, 0, none⟩ : Addr)) = some ad ∧ ∀ j v, cs[j]? = some v → w1.cell? (ad.add j) = some v := fun _ => ⟨rfl, _, rfl, fun j v hj => by
              rw [hcs] at hj
              obtain ⟨hjl, rfl⟩ := range_map_get hj
              rw [WideShapes.add_plain, Nat.zero_add]
              exact hgrow1.cell (HT.out.ent j hjl) (by simp)⟩
            have hone : ∀ v ∈ cs, v.oneCell' = true := fun v hv => by
              rw [hcs] at hv
              obtain ⟨i, _, rfl⟩ := List.mem_map.1 hv
              rfl
            have HCS := hide hcs
            have HCL := hide hcsl
            have HCU := hide hclen
            have HCR := hide hcur
            have HSRC := hide hsrc
            have HONE := hide hone
            clear hcs hcsl hclen hcur hsrc hone hown1 hgrow1 hi hz0 hz1' hz2'
            go_upto_region 27 with (with_reducible refine wpList_copy_splice rfl _ _ 22 22 rfl 26 Yba.underlying22 size26 (some ⟨wr.heap.size, 0, none⟩) (some ⟨W0.heap.size, 0, none⟩) L L L L (by with_unfolding_all rfl) (by with_unfolding_all rfl) wr.heap.size 0 cur 26 HCR.out cs (by rw [HCL.out]; simp) HSRC.out (by rw [HCL.out, HCU.out]; omega) HONE.out wr.heap.size w1 (Below.refl _ _) (Nat.le_refl _) ?_; intro w2 HG2 hB2)
            obtain ⟨hbe, hfr2⟩ := before_world HCS.out HCL.out HCU.out HG2.out hB2 hB1.out
            have hTwr : TB < wr.heap.size := World.block_lt_of_cell? wr _ hdr
            have hT2 := HT.out.of_fr hfr2 hTwr hEB (fun h => h) (fun h => h)
            have hSl2 : SlotsIs w2 SB cnt H := fun i hi => hfr2.cell (p := ⟨SB, i * 8, none⟩) (fun h => h) (HFR.out.cell (p := ⟨SB, i * 8, none⟩) (by intro c; rcases c with c | c; exact absurd (show SB = TB from c) (by omega); exact absurd (show SB = W0.heap.size from c) (by omega)) (HSL.out i hi))
            have hdr2 := hT2.hdr
            have num2 := hT2.num
            have HBE := hide hbe
            have HT2 := hide hT2
            have HSL2 := hide hSl2
            have HBL2 := hide ((HBL.out.trans (HFR.out.below (N := wc.heap.size) (by have := HSB.out; omega) (fun k hk c => by have := HSB.out; rcases c with c | c <;> omega))).trans (hfr2.below (N := wc.heap.size) (by have := HSB.out; have := HFR.out.size; omega) (fun k hk c => c.elim)))
            have hbb : wr.heap.size < w2.heap.size := (Array.getElem?_eq_some_iff.1 HG2.out).1
            have hST : SB ≠ TB := by omega
            clear hbe hT2 hSl2 hfr2 hB2 HG2 HCR HSRC HONE HCU hdr1 hdr num hdf nuf
            go_wp2_with fail
            refine (reserve_some TB SB L cnt m _ f H w2 hdr2 HT2.out.hdf num2 HT2.out.nuf HSL2.out hST hH hf0 hL1 HLP.out (by omega) hm6).mono ?_
            rintro x w3 ⟨z, hfit, hneed, hcase⟩
            rcases hcase with ⟨hz, rfl, rfl⟩ | ⟨hz, rfl, EB', T', hEB', ht', hnz', hfd', hfr'⟩
            · rw [hz] at hneed
              have hpw := pow_and HLP.out
              clear hfit hz
              go_wp2_with fail
              go_loopw [23] (fun i wx => ∃ q n : Nat, q ≤ L ∧ i = .int .i64 q ∧ wx = w3.drewN n) (fun i _ => L - (intOf i).toNat)
              case atStart => exact ⟨0, 0, by omega, rfl, rfl⟩
              case round =>
                obtain ⟨q, n, hq, rfl, rfl⟩ := hrel
                by_cases hqL : q < L
                · have d0 : (w3.drewN n).cell? ⟨wr.heap.size, q, none⟩ = some (.int .u64 (T q)) := HBE.out q hqL
                  have d1 : (w3.drewN n).cell? ⟨W0.heap.size, q, none⟩ = some (.int .u64 (T q)) := HT2.out.ent q hqL
                  have d2 : (w3.drewN n).cell? ⟨TB, 0, none⟩ = some (.slice (some ⟨W0.heap.size, 0, none⟩) L L) := HT2.out.hdr
                  generalize hWn : w3.drewN n = Wn at d0 d1 d2 ⊢
                  have HWn := hide hWn
                  clear hWn hdr2 num2
                  go_wp2_with fail
                  go_quiet (fail)
                  go_wp2_with fail
                  go_light
                  go_roundw
                  case rel => exact ⟨q + 1, _, by omega, by go_num, by rw [← HWn.out]; exact World.drewN_drewN _ _ _⟩
                  case measure => simp [intOf]; omega
                · go_wp2_with fail
                  go_ret
                  exact ⟨rfl, below_drewN HBL2.out _⟩
            · have hzL : L < z := by have := hfit.2.1; omega
              have hz2 : z / 2 < 2 * (cnt + m) := hfit.2.2 hzL
              have hzb := hfit.1.bd
              have hzb2 := hzb.2
              have hpw := pow_and hfit.1
              have HPZ := hide hfit.1
              have hdr3 := ht'.hdr
              have num3 := ht'.num
              have HT3 := hide ht'
              have HNZ3 := hide hnz'
              have HFD3 := hide hfd'
              have HSL3 := hide (show SlotsIs w3 SB cnt H from fun i hi => hfr'.cell (p := ⟨SB, i * 8, none⟩) hST (HSL2.out i hi))
              have HBL3 := hide (HBL2.out.trans (hfr'.below (N := wc.heap.size) (by have := HSB.out; have := HFR.out.size; omega) (fun k hk c => by have := HSB.out; omega)))
              clear hfit ht' hnz' hfd' hfr' hzb
              go_wp2_with fail
              go_loop [24, 25] (fun c i => ∃ q : Nat, q ≤ z ∧ i = .int .i64 q ∧ c = .int .i64 (nz T' q)) (fun _ i => z - (intOf i).toNat)
              case atStart => exact ⟨0, by omega, rfl, rfl⟩
              case round =>
                obtain ⟨q, hq, rfl, rfl⟩ := hrel
                have hql := nz_le T' q
                by_cases hqz : q < z
                · have d1 := HT3.out.ent q hqz
                  by_cases ht0 : T' q = 0
                  · have hn1 := hide (show nz T' (q + 1) = nz T' q by simp [nz, ht0])
                    rw [ht0] at d1
                    clear ht0
                    go_wp2_with fail
                    go_light
                    go_round
                    case rel => exact ⟨q + 1, by omega, by go_num, by rw [hn1.out]⟩
                    case measure => simp [intOf]; omega
                  · have hn1 := hide (show nz T' (q + 1) = nz T' q + 1 by simp [nz, ht0])
                    have hb : (T' q != 0) = true := by simp [ht0]
                    go_wp2_with fail
                    go_light
                    go_round
                    case rel => exact ⟨q + 1, by omega, by go_num, by rw [hn1.out]; go_num⟩
                    case measure => simp [intOf]; omega
                · have hqe : z = q := by omega
                  subst hqe
                  rw [HNZ3.out]
                  clear hql
                  go_wp2_with fail
                  go_loopw [228] (fun i wx => ∃ k n : Nat, k ≤ cnt ∧ i = .int .i64 k ∧ wx = w3.drewN n) (fun i _ => cnt - (intOf i).toNat)
                  case atStart => exact ⟨0, 0, by omega, rfl, rfl⟩
                  case round =>
                    obtain ⟨k, n, hk', rfl, rfl⟩ := hrel
                    by_cases hkc : k < cnt
                    · have c0 : (w3.drewN n).cell? ⟨SB, k * 8, none⟩ = some (.int .u64 ((H k : Nat) : Int)) := HSL3.out k hkc
                      have HTn := hide (HT3.out.drewN n)
                      generalize hWn : w3.drewN n = Wn at c0 HTn ⊢
                      have HWn := hide hWn
                      clear hWn hdr3 num3
                      have hHk := hH k
                      have hwr : IntKind.i64.wrap (f + (k : Int)) = f + (k : Int) := wrap_i64_in _ (by omega) (by omega)
                      go_wp2_with fail
                      go_quiet (first | (go_at_call 5; exact Calls.quiet_of_same (entry_any _ _ _ (by omega) (by omega) (by omega) (by omega))) | (go_at_call 7; exact Calls.quiet_of_same (probe_any TB EB' z (H k) _ _ T' _ (HTn.out.drewN _) HPZ.out hHk (HFD3.out k hkc))))
                      go_wp2_with fail
                      go_light
                      go_roundw
                      case rel => first | exact ⟨k + 1, _, by omega, by go_num, by rw [← HWn.out]; exact World.drewN_drewN _ _ _⟩ | ((repeat apply Exists.intro); exact ⟨⟨k + 1, _, by omega, by go_num, by rw [← HWn.out]; exact World.drewN_drewN _ _ _⟩, rfl⟩)
                      case measure => simp [intOf]; omega
                    · go_wp2_with fail
                      go_ret
                      exact ⟨rfl, below_drewN HBL3.out _⟩

end Go.Proofs.Ybulkasyk

/-
  The contracts of indexEntry (5), home (8), place (4), zzs2220cprobe (7).
-/
import Derived.Test.YbulkasykProg
import Derived.Test.YbulkasykPlain
import Derived.WalkKit
import Derived.WalkSpells
import Derived.WalkLawsBesides
import Derived.BigQuiet
import Derived.Deep.Light
namespace Go.Proofs.Ybulkasyk
open Go.RowKit

theorem hide {p : Prop} (h : p) : Hid p := h

/-- THE TABLE IN MEMORY: its header (an entries' slice and a count) in block TB, its s entries T in block EB. -/
structure TabIs (w : World) (TB EB s : Nat) (T : Nat → Int) (n : Int) : Prop where
  hdr : w.cell? ⟨TB, 0, none⟩ = some (.slice (some ⟨EB, 0, none⟩) s s)
  hdf : w.frozen? ⟨TB, 0, none⟩ = false
  num : w.cell? ⟨TB, 1, none⟩ = some (.int .i64 n)
  nuf : w.frozen? ⟨TB, 1, none⟩ = false
  ent : ∀ i, i < s → w.cell? ⟨EB, i, none⟩ = some (.int .u64 (T i))
  enf : ∀ i, i < s → w.frozen? ⟨EB, i, none⟩ = false
  ne : TB ≠ EB

set_option maxHeartbeats 400000 in
theorem home_any (TB EB s : Nat) (h : Int) (w : World) (hdr : w.cell? ⟨TB, 0, none⟩ = some (.slice (some ⟨EB, 0, none⟩) s s)) (_h1 : 1 ≤ s) (_h2 : s ≤ 2048) :
    Calls Yba.prog 8 #[.pointer (some ⟨TB, 0, none⟩), .int .u64 h] w fun e w' => e = .returned (.int .u64 (bits .and .u64 h ((s : Int) - 1))) ∧ w' = w := by
  go_enter Yba.func8, Yba.ntmps8
  go_wp2
  go_ret
  exact ⟨rfl, rfl⟩

set_option maxHeartbeats 400000 in
theorem entry_any (h i : Int) (w : World) (_h1 : 0 ≤ h) (_h2 : h ≤ 18446744073709551615) (_i1 : 0 ≤ i) (_i2 : i ≤ 200000) :
    Calls Yba.prog 5 #[.int .u64 h, .int .i64 i] w fun e w' => e = .returned (.int .u64 (ent h i)) ∧ w' = w := by
  go_enter Yba.func5, Yba.ntmps5
  go_wp2
  go_ret
  exact ⟨rfl, rfl⟩

set_option maxHeartbeats 1000000 in
theorem place_any (TB EB s hn : Nat) (e n : Int) (T : Nat → Int) (w : World) (ht : TabIs w TB EB s T n) (hs : Pow s) (hh : hn < 18446744073709551616) (hroom : ∃ i, i < s ∧ T i = 0) (hn0 : 0 ≤ n) (hn1 : n ≤ 4096) :
    Calls Yba.prog 4 #[.pointer (some ⟨TB, 0, none⟩), .int .u64 e, .int .u64 (hn : Int)] w fun x w' => x = .returned (.tuple #[]) ∧
      ∃ j, j < s ∧ T ((hn + j) % s) = 0 ∧ (∀ i, i < j → T ((hn + i) % s) ≠ 0) ∧ w' = (w.setCell ⟨EB, (hn + j) % s, none⟩ (.int .u64 e)).setCell ⟨TB, 1, none⟩ (.int .i64 (n + 1)) := by
  have hbd := hs.bd
  have hb1 := hbd.1
  have hb2 := hbd.2
  have hdr := ht.hdr
  have num := ht.num
  have nuf := ht.nuf
  have hne := ht.ne
  have HT := hide ht
  have HS := hide hs
  have HR := hide (free_met T s hn hroom)
  have HM := hide (and_mask hs hn hh)
  clear ht hs hbd hroom
  go_enter Yba.func4, Yba.ntmps4
  go_wp2_with (go_at_call 8; refine (home_any TB EB s _ _ hdr hb1 hb2).mono ?_; rintro x w' ⟨rfl, rfl⟩)
  rw [HM.out]
  go_loopg [7] s (fun g at_ wr => ∃ j : Nat, j + g = s ∧ j < s ∧ at_ = .int .u64 (((hn + j) % s : Nat) : Int) ∧ Hid (∀ i, i < j → T ((hn + i) % s) ≠ 0) ∧ wr = w')
  case atStart => exact ⟨0, by omega, by omega, rfl, hide (fun i hi => by omega), rfl⟩
  case round =>
    obtain ⟨j, hjg, hjs, rfl, hlt, rfl⟩ := hrel
    have hm : (hn + j) % s < s := Nat.mod_lt _ (by omega)
    have c0 := HT.out.ent _ hm
    have f0 := HT.out.enf _ hm
    generalize hp : (hn + j) % s = p at hm c0 f0 ⊢
    have HP := hide hp
    clear hp
    by_cases hz : T p = 0
    · rw [hz] at c0
      go_wp2_with fail
      go_end0
      refine ⟨rfl, j, hjs, by rw [HP.out]; exact hz, hlt.out, by rw [HP.out]⟩
    · have hb : (T p != 0) = true := by simp [hz]
      go_wp2_with fail
      go_light
      go_roundg (gk - 1)
      case measure => omega
      case rel =>
        have hall : ∀ i, i < j + 1 → T ((hn + i) % s) ≠ 0 := fun i hi => by
          by_cases e : i = j
          · rw [e, HP.out]; exact hz
          · exact hlt.out i (by omega)
        obtain ⟨j0, hj0, h00⟩ := HR.out
        have hj1 : j + 1 ≤ j0 := by
          by_cases c : j0 < j + 1
          · exact absurd h00 (hall j0 c)
          · omega
        refine ⟨j + 1, by omega, by omega, ?_, hide hall, rfl⟩
        rw [← HP.out, step_mask HS.out]

set_option maxHeartbeats 1000000 in
theorem probe_any (TB EB s hn : Nat) (e n : Int) (T : Nat → Int) (w : World) (ht : TabIs w TB EB s T n) (hs : Pow s) (hh : hn < 18446744073709551616) (hf : Found T s hn e) :
    Calls Yba.prog 7 #[.pointer (some ⟨TB, 0, none⟩), .int .u64 e, .int .u64 (hn : Int)] w fun x w' => x = .returned (.bool true) ∧ w' = w := by
  have hbd := hs.bd
  have hb1 := hbd.1
  have hb2 := hbd.2
  have hdr := ht.hdr
  have HT := hide ht
  have HS := hide hs
  obtain ⟨j0, hj0, he0, hlt0⟩ := hf
  have HE := hide he0
  have HL := hide hlt0
  have HM := hide (and_mask hs hn hh)
  clear ht hs hbd he0 hlt0
  go_enter Yba.func7, Yba.ntmps7
  go_wp2_with fail
  rw [HM.out]
  go_loop [8, 9] (fun at_ st => ∃ j : Nat, j ≤ j0 ∧ st = .int .i64 j ∧ at_ = .int .u64 (((hn + j) % s : Nat) : Int)) (fun _ st => j0 + 1 - (intOf st).toNat)
  case atStart => exact ⟨0, by omega, rfl, rfl⟩
  case round =>
    obtain ⟨j, hj, rfl, rfl⟩ := hrel
    have hm : (hn + j) % s < s := Nat.mod_lt _ (by omega)
    have c0 := HT.out.ent _ hm
    generalize hp : (hn + j) % s = p at hm c0 ⊢
    have HP := hide hp
    clear hp
    by_cases he : T p = e
    · have hb : (T p == e) = true := by simp [he]
      go_wp2_with fail
      go_ret
      exact ⟨rfl, rfl⟩
    · have hjlt : j < j0 := by
        by_cases c : j = j0
        · subst c; exact absurd (by rw [← HP.out]; exact HE.out) he
        · omega
      have hb : (T p == e) = false := by simp [he]
      have hb' : (T p == 0) = false := by
        have := HL.out j hjlt
        rw [HP.out] at this
        simp [this]
      go_wp2_with fail
      go_light
      go_round
      case rel => exact ⟨j + 1, by omega, by go_num, by rw [← HP.out, step_mask HS.out]⟩
      case measure => simp [intOf]; omega

end Go.Proofs.Ybulkasyk

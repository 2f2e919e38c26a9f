/-
  LawS2216AFloor: the searches: cmp.isNaN (30), cmp.Compare (24), searchStarts$1 (23), slices.BinarySearchFunc (22), searchStarts (14); child$1 (28), slices.BinarySearchFunc (27), child (20).
-/
import Derived.Test.YbulkaswgTree
import Derived.WalkKit
import Derived.WalkSpells
import Derived.WalkLawsBesides
import Derived.BigQuiet
import Derived.Deep.Light
namespace Go.Proofs.Ybulkaswg
open Go.RowKit Go.Shelf

def cmp3 (x y : Nat) : Int := if x < y then -1 else if y < x then 1 else 0

def Said22 (A : Nat → Nat) (n q : Nat) (w : World) (e : Ending) (w' : World) : Prop :=
  ∃ (j : Nat) (fnd : Bool), j ≤ n ∧ (∀ i, i < j → A i < q) ∧ (∀ i, j ≤ i → i < n → q ≤ A i) ∧ (fnd = true ↔ j < n ∧ A j = q) ∧ e = .returned (.tuple #[.int .i64 (j : Int), .bool fnd]) ∧ Below w.heap.size w w'

def Said27 (A : Nat → Nat) (n q : Nat) (w : World) (e : Ending) (w' : World) : Prop :=
  ∃ (j : Nat) (fnd : Bool), j ≤ n ∧ (∀ i, i < j → A i ≤ q) ∧ (∀ i, j ≤ i → i < n → q < A i) ∧ e = .returned (.tuple #[.int .i64 (j : Int), .bool fnd]) ∧ w' = w

theorem nan30 (x : Nat) (w : World) : Calls Yba.prog 30 #[.int .u64 (x : Int)] w fun e w' => e = .returned (.bool false) ∧ w' = w := by
  go_enter Yba.func30, Yba.ntmps30
  go_wp2
  go_ret
  exact ⟨rfl, rfl⟩

set_option maxHeartbeats 400000 in
theorem cmp24 (x y : Nat) (w : World) : Calls Yba.prog 24 #[.int .u64 (x : Int), .int .u64 (y : Int)] w fun e w' => e = .returned (.int .i64 (cmp3 x y)) ∧ w' = w := by
  unfold cmp3
  by_cases h1 : x < y
  · rw [if_pos h1]
    have h1' : (x : Int) < y := by omega
    go_enter Yba.func24, Yba.ntmps24
    go_wp2_with (go_at_call 30; refine (nan30 _ _).mono ?_; rintro e w' ⟨rfl, rfl⟩)
    go_ret
    exact ⟨rfl, rfl⟩
  · rw [if_neg h1]
    have h1' : ¬ (x : Int) < y := by omega
    by_cases h2 : y < x
    · rw [if_pos h2]
      have h2' : (y : Int) < x := by omega
      go_enter Yba.func24, Yba.ntmps24
      go_wp2_with (go_at_call 30; refine (nan30 _ _).mono ?_; rintro e w' ⟨rfl, rfl⟩)
      go_ret
      exact ⟨rfl, rfl⟩
    · rw [if_neg h2]
      have h2' : ¬ (y : Int) < x := by omega
      go_enter Yba.func24, Yba.ntmps24
      go_wp2_with (go_at_call 30; refine (nan30 _ _).mono ?_; rintro e w' ⟨rfl, rfl⟩)
      go_ret
      exact ⟨rfl, rfl⟩

set_option maxHeartbeats 400000 in
theorem clos23 (x y : Nat) (w : World) : Calls Yba.prog 23 #[.agg #[.int .u64 (x : Int), .pointer none], .int .u64 (y : Int)] w fun e w' => e = .returned (.int .i64 (cmp3 x y)) ∧ w' = w.alloc (.cells #[.int .u64 (x : Int), .pointer none] 29) := by
  go_enter Yba.func23, Yba.ntmps23
  go_wp2_with (go_at_call 24; refine (cmp24 _ _ _).mono ?_; rintro e w' ⟨rfl, rfl⟩)
  go_ret
  exact ⟨rfl, rfl⟩

set_option maxHeartbeats 1000000 in
theorem search22 (b o n q : Nat) (A : Nat → Nat) (w : World) (hb : b < w.heap.size) (hn : n ≤ 64) (hA : ∀ i j, i < j → j < n → A i < A j) (hc : ∀ i, i < n → w.cell? ⟨b, o + i * 2, none⟩ = some (.int .u64 (A i : Int)) ∧ w.cell? ⟨b, o + i * 2 + 1, none⟩ = some (.pointer none)) :
    Calls Yba.prog 22 #[.slice (some ⟨b, o, none⟩) n n, .int .u64 (q : Int), .func (.func 23) #[] #[]] w (Said22 A n q w) := by
  go_enter Yba.func22, Yba.ntmps22
  go_wp2
  go_loopw [9, 10] (fun i j wr => ∃ a c : Nat, i = .int .i64 (a : Int) ∧ j = .int .i64 (c : Int) ∧ a ≤ c ∧ c ≤ n ∧ (∀ k, k < a → A k < q) ∧ (∀ k, c ≤ k → k < n → q ≤ A k) ∧ Below w.heap.size w wr) (fun i j _ => (intOf j).toNat - (intOf i).toNat)
  case atStart => exact ⟨0, n, rfl, rfl, by omega, by omega, fun k h => by omega, fun k h1 h2 => by omega, Below.refl _ _⟩
  case round =>
    obtain ⟨a, c, rfl, rfl, hac, hcn, hlo, hhi, hB⟩ := hrel
    by_cases hlt : a < c
    · have hlt' : (a : Int) < c := by omega
      have hm1 : (a + c) / 2 < n := by omega
      obtain ⟨m0, m1⟩ := hc ((a + c) / 2) hm1
      have c0 : wr.cell? ⟨b, o + (a + c) / 2 * 2, none⟩ = some (.int .u64 (A ((a + c) / 2) : Int)) := (hB.cell (p := ⟨b, _, none⟩) hb).trans m0
      have c1 : wr.cell? ⟨b, o + (a + c) / 2 * 2 + 1, none⟩ = some (.pointer none) := (hB.cell (p := ⟨b, _, none⟩) hb).trans m1
      have hws := hB.size
      clear m0 m1 hc
      by_cases hq : A ((a + c) / 2) < q
      · have hcmp : cmp3 (A ((a + c) / 2)) q = -1 := if_pos hq
        go_wp2_with (go_at_call 23; refine (clos23 _ _ _).mono ?_; rintro e w' ⟨rfl, rfl⟩)
        refine ⟨⟨(a + c) / 2 + 1, c, by congr 1, rfl, by omega, hcn, fun k hk => ?_, hhi, hB.alloc hws _⟩, by simp only [intOf]; omega⟩
        by_cases hk' : k = (a + c) / 2
        · rw [hk']; exact hq
        · have := hA k ((a + c) / 2) (by omega) hm1
          omega
      · have hcmp : 0 ≤ cmp3 (A ((a + c) / 2)) q := by
          unfold cmp3
          rw [if_neg hq]
          split <;> omega
        have hcmp' : ¬ cmp3 (A ((a + c) / 2)) q < 0 := by omega
        go_wp2_with (go_at_call 23; refine (clos23 _ _ _).mono ?_; rintro e w' ⟨rfl, rfl⟩)
        refine ⟨⟨a, (a + c) / 2, rfl, by congr 1, by omega, by omega, hlo, fun k h1 h2 => ?_, hB.alloc hws _⟩, by simp only [intOf]; omega⟩
        by_cases hk' : k = (a + c) / 2
        · rw [hk']; omega
        · have := hA ((a + c) / 2) k (by omega) h2
          omega
    · have hlt' : ¬ (a : Int) < c := by omega
      obtain rfl : a = c := by omega
      have hws := hB.size
      by_cases han : a < n
      · have han' : (a : Int) < n := by omega
        obtain ⟨m0, m1⟩ := hc a han
        have c0 : wr.cell? ⟨b, o + a * 2, none⟩ = some (.int .u64 (A a : Int)) := (hB.cell (p := ⟨b, _, none⟩) hb).trans m0
        have c1 : wr.cell? ⟨b, o + a * 2 + 1, none⟩ = some (.pointer none) := (hB.cell (p := ⟨b, _, none⟩) hb).trans m1
        clear m0 m1 hc
        have hcmp : (cmp3 (A a) q = 0) = (A a = q) := by
          unfold cmp3
          apply propext
          split
          · constructor <;> intro h <;> omega
          · split <;> constructor <;> intro h <;> omega
        go_wp2_with (go_at_call 23; refine (clos23 _ _ _).mono ?_; rintro e w' ⟨rfl, rfl⟩)
        exact bodyPost_ret (results_tmp2 rfl _ _ _) rfl ⟨a, cmp3 (A a) q == 0, hcn, hlo, hhi, by rw [beq_iff_eq, hcmp]; exact ⟨fun h => ⟨han, h⟩, fun h => h.2⟩, rfl, hB.alloc hws _⟩
      · have han' : ¬ (a : Int) < n := by omega
        go_wp2_with fail
        exact bodyPost_ret (results_tmp2 rfl _ _ _) rfl ⟨a, false, hcn, hlo, hhi, ⟨fun h => (by cases h), fun h => absurd h.1 han⟩, rfl, hB⟩

set_option maxHeartbeats 400000 in
theorem search14 (b o n q : Nat) (A : Nat → Nat) (w : World) (hb : b < w.heap.size) (hn : n ≤ 64) (hA : ∀ i j, i < j → j < n → A i < A j) (hc : ∀ i, i < n → w.cell? ⟨b, o + i * 2, none⟩ = some (.int .u64 (A i : Int)) ∧ w.cell? ⟨b, o + i * 2 + 1, none⟩ = some (.pointer none)) :
    Calls Yba.prog 14 #[.slice (some ⟨b, o, none⟩) n n, .int .u64 (q : Int)] w (Said22 A n q w) := by
  have hs := search22 b o n q A w hb hn hA hc
  clear hA hc
  go_enter Yba.func14, Yba.ntmps14
  go_wp2_with (go_at_call 22; refine hs.mono ?_; rintro e w' ⟨j, fnd, h1, h2, h3, h4, rfl, h5⟩)
  exact bodyPost_ret (results_tmp2 rfl _ _ _) rfl ⟨j, fnd, h1, h2, h3, h4, rfl, h5⟩

def kidSays (x y : Nat) : Int := if x ≤ y then -1 else 1

set_option maxHeartbeats 400000 in
theorem clos28 (B x y : Nat) (w : World) (hc : w.cell? ⟨B, 0, none⟩ = some (.int .u64 (x : Int))) : Calls Yba.prog 28 #[.pointer (some ⟨B, 0, none⟩), .int .u64 (y : Int)] w fun e w' => e = .returned (.int .i64 (kidSays x y)) ∧ w' = w := by
  unfold kidSays
  by_cases h1 : x ≤ y
  · rw [if_pos h1]
    have h1' : (x : Int) ≤ y := by omega
    go_enter Yba.func28, Yba.ntmps28
    go_wp2
    go_ret
    exact ⟨rfl, rfl⟩
  · rw [if_neg h1]
    have h1' : ¬ (x : Int) ≤ y := by omega
    go_enter Yba.func28, Yba.ntmps28
    go_wp2
    go_ret
    exact ⟨rfl, rfl⟩

set_option maxHeartbeats 1000000 in
theorem search27 (g n q : Nat) (A NB : Nat → Nat) (w : World) (hn : n ≤ 16) (hA : ∀ i j, i < j → j < n → A i < A j) (hk : ∀ i, i < n → w.cell? ⟨g, i, none⟩ = some (.pointer (some ⟨NB i, 0, none⟩))) (hc : ∀ i, i < n → w.cell? ⟨NB i, 0, none⟩ = some (.int .u64 (A i : Int))) :
    Calls Yba.prog 27 #[.slice (some ⟨g, 0, none⟩) n n, .int .u64 (q : Int), .func (.func 28) #[] #[]] w (Said27 A n q w) := by
  go_enter Yba.func27, Yba.ntmps27
  go_wp2
  go_loop [9, 10] (fun i j => ∃ a c : Nat, i = .int .i64 (a : Int) ∧ j = .int .i64 (c : Int) ∧ a ≤ c ∧ c ≤ n ∧ (∀ k, k < a → A k ≤ q) ∧ (∀ k, c ≤ k → k < n → q < A k)) (fun i j => (intOf j).toNat - (intOf i).toNat)
  case atStart => exact ⟨0, n, rfl, rfl, by omega, by omega, fun k h => by omega, fun k h1 h2 => by omega⟩
  case round =>
    obtain ⟨a, c, rfl, rfl, hac, hcn, hlo, hhi⟩ := hrel
    by_cases hlt : a < c
    · have hlt' : (a : Int) < c := by omega
      have hm1 : (a + c) / 2 < n := by omega
      have c0 := hk ((a + c) / 2) hm1
      have c1 := hc ((a + c) / 2) hm1
      clear hk hc
      by_cases hq : A ((a + c) / 2) ≤ q
      · have hcmp : kidSays (A ((a + c) / 2)) q = -1 := if_pos hq
        go_wp2_with (go_at_call 28; refine (clos28 _ _ _ _ c1).mono ?_; rintro e w' ⟨rfl, rfl⟩)
        refine ⟨⟨(a + c) / 2 + 1, c, by congr 1, rfl, by omega, hcn, fun k hk => ?_, hhi⟩, by simp only [intOf]; omega⟩
        by_cases hk' : k = (a + c) / 2
        · rw [hk']; exact hq
        · have := hA k ((a + c) / 2) (by omega) hm1
          omega
      · have hcmp : kidSays (A ((a + c) / 2)) q = 1 := if_neg hq
        go_wp2_with (go_at_call 28; refine (clos28 _ _ _ _ c1).mono ?_; rintro e w' ⟨rfl, rfl⟩)
        refine ⟨⟨a, (a + c) / 2, rfl, by congr 1, by omega, by omega, hlo, fun k h1 h2 => ?_⟩, by simp only [intOf]; omega⟩
        by_cases hk' : k = (a + c) / 2
        · rw [hk']; omega
        · have := hA ((a + c) / 2) k (by omega) h2
          omega
    · have hlt' : ¬ (a : Int) < c := by omega
      obtain rfl : a = c := by omega
      by_cases han : a < n
      · have han' : (a : Int) < n := by omega
        have c0 := hk a han
        have c1 := hc a han
        clear hk hc
        go_wp2_with (go_at_call 28; refine (clos28 _ _ _ _ c1).mono ?_; rintro e w' ⟨rfl, rfl⟩)
        exact bodyPost_ret (results_tmp2 rfl _ _ _) rfl ⟨a, _, hcn, hlo, hhi, rfl, rfl⟩
      · have han' : ¬ (a : Int) < n := by omega
        go_wp2_with fail
        exact bodyPost_ret (results_tmp2 rfl _ _ _) rfl ⟨a, false, hcn, hlo, hhi, rfl, rfl⟩

theorem past_first {A : Nat → Nat} {j n q : Nat} (hn : 1 ≤ n) (h0 : A 0 ≤ q) (h3 : ∀ i, j ≤ i → i < n → q < A i) : ∃ j', j = j' + 1 := by
  rcases j with _ | j
  · exact absurd (h3 0 (by omega) (by omega)) (by omega)
  · exact ⟨j, rfl⟩

set_option maxHeartbeats 400000 in
theorem child20 (B g n q : Nat) (A NB : Nat → Nat) (w : World) (hn1 : 1 ≤ n) (hn : n ≤ 16) (hA : ∀ i j, i < j → j < n → A i < A j) (h0 : A 0 ≤ q) (hr : w.cell? ⟨B, 1, none⟩ = some (.slice (some ⟨g, 0, none⟩) n n)) (hk : ∀ i, i < n → w.cell? ⟨g, i, none⟩ = some (.pointer (some ⟨NB i, 0, none⟩))) (hc : ∀ i, i < n → w.cell? ⟨NB i, 0, none⟩ = some (.int .u64 (A i : Int))) :
    Calls Yba.prog 20 #[.pointer (some ⟨B, 0, none⟩), .int .u64 (q : Int)] w fun e w' => ∃ j : Nat, j < n ∧ A j ≤ q ∧ (∀ i, j < i → i < n → q < A i) ∧ e = .returned (.int .i64 (j : Int)) ∧ w' = w := by
  have hs := search27 g n q A NB w hn hA hk hc
  clear hA hk hc
  go_enter Yba.func20, Yba.ntmps20
  go_wp2_with (go_at_call 27; refine hs.mono ?_; rintro e w' ⟨j, fnd, h1, h2, h3, rfl, rfl⟩; obtain ⟨j, rfl⟩ := past_first hn1 h0 h3)
  go_ret
  exact ⟨j, by omega, h2 j (by omega), fun i hi hin => h3 i (by omega) hin, rfl, rfl⟩

end Go.Proofs.Ybulkaswg

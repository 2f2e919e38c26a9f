/-
  Linear probing, plainly: a table of s cells as a function; where an entry is placed; how many are in use; that a placed entry is found. Nothing of the program.
-/
import Derived.Laws.BitsAllLaws
namespace Go.Proofs.Ybulkasyk

/-- T with e at p. -/
def upd (T : Nat → Int) (p : Nat) (e : Int) : Nat → Int := fun i => if i = p then e else T i
theorem upd_same (T : Nat → Int) (p : Nat) (e : Int) : upd T p e p = e := by simp [upd]
theorem upd_other (T : Nat → Int) (p i : Nat) (e : Int) (h : i ≠ p) : upd T p e i = T i := by simp [upd, h]

/-- How many of the first k cells are in use. -/
def nz (T : Nat → Int) : Nat → Nat
  | 0 => 0
  | k + 1 => if T k = 0 then nz T k else nz T k + 1

theorem nz_le (T : Nat → Int) : ∀ k, nz T k ≤ k
  | 0 => Nat.le_refl _
  | k + 1 => by
    have := nz_le T k
    unfold nz
    split <;> omega

theorem nz_room (T : Nat → Int) : ∀ k, nz T k < k → ∃ i, i < k ∧ T i = 0
  | 0, h => by omega
  | k + 1, h => by
    by_cases e : T k = 0
    · exact ⟨k, by omega, e⟩
    · have h' : nz T (k + 1) = nz T k + 1 := by simp [nz, e]
      obtain ⟨i, hi, h0⟩ := nz_room T k (by omega)
      exact ⟨i, by omega, h0⟩

theorem nz_upd_ge (T : Nat → Int) (p : Nat) (e : Int) : ∀ k, k ≤ p → nz (upd T p e) k = nz T k
  | 0, _ => rfl
  | k + 1, h => by
    simp only [nz, upd_other T p k e (by omega), nz_upd_ge T p e k (by omega)]

theorem nz_upd (T : Nat → Int) (p : Nat) (e : Int) (h0 : T p = 0) (he : e ≠ 0) : ∀ k, p < k → nz (upd T p e) k = nz T k + 1
  | 0, h => by omega
  | k + 1, h => by
    by_cases hk : k = p
    · subst hk
      simp [nz, upd_same, h0, he, nz_upd_ge T k e k (Nat.le_refl _)]
    · simp only [nz, upd_other T p k e hk, nz_upd T p e h0 he k (by omega)]
      split <;> omega

theorem nz_zero : ∀ k, nz (fun _ => 0) k = 0
  | 0 => rfl
  | k + 1 => by simp [nz, nz_zero k]

/-- Some probe from h on comes to a free cell. -/
theorem free_met (T : Nat → Int) (s h : Nat) (hs : ∃ i, i < s ∧ T i = 0) : ∃ j, j < s ∧ T ((h + j) % s) = 0 := by
  obtain ⟨i, hi, h0⟩ := hs
  have hm : h % s < s := Nat.mod_lt _ (by omega)
  by_cases hle : h % s ≤ i
  · refine ⟨i - h % s, by omega, ?_⟩
    have : (h + (i - h % s)) % s = i := by
      rw [Nat.add_mod, Nat.mod_eq_of_lt (show i - h % s < s by omega), show h % s + (i - h % s) = i by omega, Nat.mod_eq_of_lt hi]
    rw [this]; exact h0
  · refine ⟨i + s - h % s, by omega, ?_⟩
    have : (h + (i + s - h % s)) % s = i := by
      rw [Nat.add_mod, Nat.mod_eq_of_lt (show i + s - h % s < s by omega), show h % s + (i + s - h % s) = i + s by omega, Nat.add_mod_right, Nat.mod_eq_of_lt hi]
    rw [this]; exact h0

/-- The entry e of hash h is found: every cell from h's home up to it is in use. -/
def Found (T : Nat → Int) (s h : Nat) (e : Int) : Prop := ∃ j, j < s ∧ T ((h + j) % s) = e ∧ ∀ i, i < j → T ((h + i) % s) ≠ 0

theorem Found.kept {T : Nat → Int} {s h p : Nat} {e e' : Int} (hf : Found T s h e) (he : e ≠ 0) (h0 : T p = 0) : Found (upd T p e') s h e := by
  obtain ⟨j, hj, hT, hlt⟩ := hf
  refine ⟨j, hj, ?_, fun i hi => ?_⟩
  · rw [upd_other _ _ _ _ (by intro c; rw [c, h0] at hT; exact he hT.symm)]; exact hT
  · rw [upd_other _ _ _ _ (by intro c; exact hlt i hi (by rw [c]; exact h0))]; exact hlt i hi

theorem Found.placed {T : Nat → Int} {s h j : Nat} {e : Int} (hj : j < s) (h0 : T ((h + j) % s) = 0) (hlt : ∀ i, i < j → T ((h + i) % s) ≠ 0) : Found (upd T ((h + j) % s) e) s h e := by
  refine ⟨j, hj, upd_same _ _ _, fun i hi => ?_⟩
  rw [upd_other _ _ _ _ (by intro c; exact hlt i hi (by rw [c]; exact h0))]
  exact hlt i hi

/-- A power of two, at most 2048. -/
def Pow (s : Nat) : Prop := ∃ a, a ≤ 11 ∧ s = 2 ^ a
theorem Pow.bd {s : Nat} (h : Pow s) : 1 ≤ s ∧ s ≤ 2048 := by
  obtain ⟨a, ha, rfl⟩ := h
  exact ⟨Nat.one_le_two_pow, Nat.pow_le_pow_right (by omega) ha⟩

/-- 'x & (s-1)' at a power of two. -/
theorem and_mask {s : Nat} (hs : Pow s) (x : Nat) (hx : x < 18446744073709551616) : bits .and .u64 (x : Int) ((s : Int) - 1) = ((x % s : Nat) : Int) := by
  obtain ⟨a, ha, rfl⟩ := hs
  have h1 : 1 ≤ 2 ^ a := Nat.one_le_two_pow
  have h2 : 2 ^ a ≤ 2 ^ 11 := Nat.pow_le_pow_right (by omega) ha
  rw [show (((2 ^ a : Nat) : Int) - 1) = ((2 ^ a - 1 : Nat) : Int) by omega, u64_and_nat x (2 ^ a - 1) hx (by omega), Nat.and_two_pow_sub_one_eq_mod]

theorem step_mask {s : Nat} (hs : Pow s) (h j : Nat) : bits .and .u64 ((((h + j) % s : Nat) : Int) + 1) ((s : Int) - 1) = (((h + (j + 1)) % s : Nat) : Int) := by
  have hb := hs.bd
  have hm : (h + j) % s < s := Nat.mod_lt _ (by omega)
  rw [show ((((h + j) % s : Nat) : Int) + 1) = (((h + j) % s + 1 : Nat) : Int) by omega, and_mask hs _ (by omega), Nat.add_mod, Nat.mod_mod, ← Nat.add_mod, Nat.add_assoc]

/-- A slot's entry. -/
def ent (h i : Int) : Int := bits .or .u64 (h / 4294967296 * 4294967296) (i + 1)
theorem ent_ne (h i : Int) (h1 : 0 ≤ h) (h2 : h ≤ 18446744073709551615) (i1 : 0 ≤ i) (i2 : i ≤ 200000) : ent h i ≠ 0 := by
  unfold ent
  rw [u64_or _ _ (by omega) (by omega) (by omega) (by omega)]
  have := Nat.right_le_or (n := (h / 4294967296 * 4294967296).toNat) (m := (i + 1).toNat)
  omega

end Go.Proofs.Ybulkasyk

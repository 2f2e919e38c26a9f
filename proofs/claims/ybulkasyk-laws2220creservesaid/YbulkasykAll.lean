/-
  LawS2220CReserve (3): all inputs together.
-/
import Derived.Test.YbulkasykSmall
namespace Go.Proofs.Ybulkasyk
open Go.RowKit

set_option maxRecDepth 100000 in
theorem law_long (a0 a2 a3 : Int) (a : Option Addr) (len cap : Nat) (w : World) (hl : 1024 < len) (hm : len ≤ maxLen) :
    Calls Yba.prog 3 #[.int .u8 a0, .slice a len cap, .int .u16 a2, .int .u32 a3] w fun e w' => e = .returned (.bool true) ∧ Below w.heap.size w w' := by
  unfold maxLen at hm
  go_enter Yba.func3, Yba.ntmps3
  go_wp2_with fail
  go_ret
  exact ⟨rfl, Below.refl _ _⟩

theorem pow_two (b : Nat) (hb : b ≤ 11) (s : Nat) (hs : s = 2 ^ b) : Pow s := ⟨b, hb, hs⟩

theorem law_all (a0 a2 a3 : Int) (a : Option Addr) (len cap : Nat) (H : Nat → Nat) (w : World) (hmx : len ≤ maxLen)
    (h0 : 0 ≤ a0 ∧ a0 ≤ 255) (h2 : 0 ≤ a2 ∧ a2 ≤ 65535) (h3 : 0 ≤ a3 ∧ a3 ≤ 4294967295)
    (ha : 0 < len → ∃ b off, a = some ⟨b, off, none⟩ ∧ b < w.heap.size ∧ ∀ i, i < len → w.cell? ⟨b, off + i, none⟩ = some (.int .u64 ((H i : Nat) : Int))) (hH : ∀ k, H k < 18446744073709551616) :
    Calls Yba.prog 3 #[.int .u8 a0, .slice a len cap, .int .u16 a2, .int .u32 a3] w fun e w' => e = .returned (.bool true) ∧ Below w.heap.size w w' := by
  by_cases hl : len ≤ 1024
  · obtain ⟨kk, hk⟩ : ∃ kk : Nat, a0 % 6 = (kk : Int) := ⟨(a0 % 6).toNat, by omega⟩
    obtain ⟨m, hm⟩ : ∃ m : Nat, a2 % 600 = (m : Int) := ⟨(a2 % 600).toNat, by omega⟩
    by_cases hkk : 1 ≤ kk
    · have hk5 : kk ≤ 5 := by omega
      obtain ⟨L, hLw, hL1, hL2, hLp⟩ : ∃ L : Nat, wrap64 (16 * 2 ^ (kk - 1)) = (L : Int) ∧ 16 ≤ L ∧ L ≤ 256 ∧ Pow L := by
        match kk, hkk, hk5 with
        | 1, _, _ => exact ⟨16, by kernel_rfl, by omega, by omega, pow_two 4 (by omega) _ rfl⟩
        | 2, _, _ => exact ⟨32, by kernel_rfl, by omega, by omega, pow_two 5 (by omega) _ rfl⟩
        | 3, _, _ => exact ⟨64, by kernel_rfl, by omega, by omega, pow_two 6 (by omega) _ rfl⟩
        | 4, _, _ => exact ⟨128, by kernel_rfl, by omega, by omega, pow_two 7 (by omega) _ rfl⟩
        | 5, _, _ => exact ⟨256, by kernel_rfl, by omega, by omega, pow_two 8 (by omega) _ rfl⟩
      exact law_big a0 a2 a3 a len cap kk m L _ _ H w hl h0 h2 h3 hk hm rfl hkk hLw hL1 hL2 hLp rfl ha hH
    · exact law_small a0 a2 a3 a len cap kk m 0 _ w hl h0 h2 h3 hk hm rfl (by omega) (by omega)
  · exact law_long a0 a2 a3 a len cap w (by omega) hmx

end Go.Proofs.Ybulkasyk

/-
  LawS2216BScript (4): a long script; an empty one; every script.
-/
import Derived.Test.YbulkaswgScript
namespace Go.Proofs.Ybulkaswg
open Go.RowKit Go.Maps

set_option maxHeartbeats 400000 in
theorem script_long (a : Option Addr) (len cap : Nat) (w : World) (hl : 1024 < len) :
    Calls Yba.prog 4 #[.slice a len cap] w fun e w' => e = .returned (.bool true) ∧ Below w.heap.size w w' := by
  go_enter Yba.func4, Yba.ntmps4
  go_wp2
  go_ret
  exact ⟨rfl, Below.refl _ _⟩

set_option maxHeartbeats 400000 in
theorem script_empty (a : Option Addr) (cap : Nat) (w : World) :
    Calls Yba.prog 4 #[.slice a 0 cap] w fun e w' => e = .returned (.bool true) ∧ Below w.heap.size w w' := by
  have heq := fun W => run_eql_map_nil (P := Yba.prog) W 36 9 40 none Yba.underlying36
  go_enter Yba.func4, Yba.ntmps4
  go_wp2
  refine wp_loop_rounds 1 ?_
  rw [rounds_succ]
  go_wp2
  go_ret
  exact ⟨rfl, (inv_start w (fun _ => 0) (fun _ => 0) (fun _ => 0)).bel⟩

/-- WHAT THE WALK IS TOLD OF A SLICE OF STEPS THAT CAME IN. -/
def IsSteps (w : World) (a : Option Addr) (len : Nat) : Prop :=
  len = 0 ∨ ∃ x : Addr, a = some ⟨x.block, x.off, none⟩ ∧ x.block < w.heap.size ∧ ∃ R L I : Nat → Int, (∀ i, 0 ≤ R i ∧ R i ≤ 255) ∧
    (∀ i, i < len → w.cell? ⟨x.block, x.off + i * 3, none⟩ = some (.int .u8 (R i))) ∧ (∀ i, i < len → w.cell? ⟨x.block, x.off + i * 3 + 1, none⟩ = some (.int .u64 (L i))) ∧ (∀ i, i < len → w.cell? ⟨x.block, x.off + i * 3 + 2, none⟩ = some (.int .u64 (I i)))

theorem script_any (a : Option Addr) (len cap : Nat) (w : World) (h : IsSteps w a len) :
    Calls Yba.prog 4 #[.slice a len cap] w fun e w' => e = .returned (.bool true) ∧ Below w.heap.size w w' := by
  rcases h with rfl | ⟨x, rfl, hx, R, L, I, hR, h0, h1, h2⟩
  · exact script_empty a cap w
  · by_cases hl : 1024 < len
    · exact script_long _ len cap w hl
    · by_cases hz : len = 0
      · subst hz; exact script_empty _ cap w
      · exact script_walk x len cap R L I w (by omega) (by omega) h0 h1 h2 hx hR

end Go.Proofs.Ybulkaswg

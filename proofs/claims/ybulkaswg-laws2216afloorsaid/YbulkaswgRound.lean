/-
  A region that draws its order, inside a round: it may be walked as if there were no round.
-/
import Derived.Test.YbulkaswgChunk
namespace Go.Proofs.Ybulkaswg
open Go.RowKit Go.Shelf

theorem wpIn_round {F : Fence} {n : Nat} {P : Program} {o : Oper} {a : Act} {w : World} {K : Act → World → Prop} {Q : Exit → Act → World → Prop} (l : Nat) (hro : F.round = none) (hd : ∀ c, o.op ≠ .defer c)
    (h : o.wpIn F n P a w K Q) : o.wpIn (F.inRound l) n P a w K Q := by
  unfold Oper.wpIn at *
  refine ⟨h.1, ?_⟩
  have h := h.2
  rw [hro, Oper.semAt_none] at h
  rw [Fence.inRound_round, Oper.semAt_some l _ _ hd]
  exact h

theorem wpAny_round {F : Fence} {n : Nat} {P : Program} {md : Region.Mode} {ops : Array Oper} {Q : Exit → Act → World → Prop} (l : Nat) (hro : F.round = none) (hd : ∀ (i : Nat) (o : Oper) c, ops[i]? = some o → o.op ≠ .defer c) :
    ∀ (fuel : Nat) (listed : Array Bool) (a : Act) (w : World), wpAnyIn F n P md ops Q fuel listed a w → wpAnyIn (F.inRound l) n P md ops Q fuel listed a w
  | 0, _, _, _, h => h
  | fuel + 1, listed, a, w, h => ⟨h.1, fun i hi => by
      have h2 := h.2 i hi
      have h3 := wpOpIn_mono (fun a' w' hw => wpAny_round l hro hd fuel _ a' w' hw) h2
      unfold wpOpIn at h3 ⊢
      cases ho : ops[i]? with
      | none => rw [ho] at h3; exact h3
      | some o =>
        rw [ho] at h3
        dsimp only at h3 ⊢
        split
        · rename_i hw
          rw [if_pos hw] at h3
          exact wpIn_round l hro (fun c => hd i o c ho) h3
        · rename_i hw
          rw [if_neg hw] at h3
          exact h3⟩

/-- The region in a round, from its orders without one. -/
theorem region_round {F : Fence} {n : Nat} {P : Program} {ops : Array Oper} {Q : Exit → Act → World → Prop} {id l : Nat} {a : Act} {w : World} (hro : F.round = none) (hd : ∀ (i : Nat) (o : Oper) c, ops[i]? = some o → o.op ≠ .defer c) (hm : P.follows .mixedOrders = true)
    (h : wpAnyIn F n P .any ops Q ops.size (Array.replicate ops.size false) a w.drew) : (Code.region id ops true).wpIn (F.inRound l) n P Q a w :=
  wpIn_region_any hm (wpAny_round l hro hd _ _ _ _ h)

end Go.Proofs.Ybulkaswg

/-
  LawS2216BStepFrom (5): every input.
-/
import Derived.Test.YbulkaswgStepNil
import Derived.Test.YbulkaswgStepA
import Derived.Test.YbulkaswgStepB
import Derived.Test.YbulkaswgStepC
namespace Go.Proofs.Ybulkaswg
open Go.RowKit Go.Maps

theorem step_any (c i p r l d : Int) (nl : Bool) (hs : Nat → Bool) (el ei : Nat → Int) (w : World) (hr : 0 ≤ r ∧ r ≤ 255) (hl : 0 ≤ l ∧ l ≤ 18446744073709551615) (hd : 0 ≤ d ∧ d ≤ 18446744073709551615) :
    Calls Yba.prog 5 #[.int .u64 c, .int .u64 i, .int .u64 p, .bool nl, .agg #[.bool (hs 0), .bool (hs 1), .bool (hs 2)], .agg #[.int .u64 (el 0), .int .u64 (ei 0), .int .u64 (el 1), .int .u64 (ei 1), .int .u64 (el 2), .int .u64 (ei 2)], .int .u8 r, .int .u64 l, .int .u64 d] w fun e w' => e = .returned (.bool true) ∧ Below w.heap.size w w' := by
  cases nl with
  | true => exact step_nil c i p r l d hs el ei w hr hl hd
  | false =>
    obtain ⟨j, hj⟩ : ∃ j : Nat, r % 4 = (j : Int) := ⟨(r % 4).toNat, by omega⟩
    have hj4 : j < 4 := by omega
    by_cases hc : c < l
    · by_cases h3 : j < 3
      · cases hh : hs j with
        | true => exact step_A1 c i p r l d hs el ei w hr j hj hj4 h3 hh hc
        | false => exact step_B1 c i p r l d hs el ei w hr j hj hj4 h3 hh hc
      · exact step_C1 c i p r l d hs el ei w hr j hj hj4 (by omega) hc
    · by_cases h3 : j < 3
      · cases hh : hs j with
        | true => exact step_A2 c i p r l d hs el ei w hr j hj hj4 h3 hh (by omega)
        | false => exact step_B2 c i p r l d hs el ei w hr j hj hj4 h3 hh (by omega)
      · exact step_C2 c i p r l d hs el ei w hr j hj hj4 (by omega) (by omega)

end Go.Proofs.Ybulkaswg

/-
  LawS2216BStepFrom (5): the walk where the map is nil.
-/
import Derived.Test.YbulkaswgStepParts
namespace Go.Proofs.Ybulkaswg
open Go.RowKit Go.Maps

set_option maxRecDepth 100000 in
set_option maxHeartbeats 1000000 in
theorem step_nil (c i p r l d : Int) (hs : Nat → Bool) (el ei : Nat → Int) (w : World) (hr : 0 ≤ r ∧ r ≤ 255) (hl : 0 ≤ l ∧ l ≤ 18446744073709551615) (hd : 0 ≤ d ∧ d ≤ 18446744073709551615) :
    Calls Yba.prog 5 #[.int .u64 c, .int .u64 i, .int .u64 p, .bool true, .agg #[.bool (hs 0), .bool (hs 1), .bool (hs 2)], .agg #[.int .u64 (el 0), .int .u64 (ei 0), .int .u64 (el 1), .int .u64 (ei 1), .int .u64 (el 2), .int .u64 (ei 2)], .int .u8 r, .int .u64 l, .int .u64 d] w fun e w' => e = .returned (.bool true) ∧ Below w.heap.size w w' := by
  go_enter Yba.func5, Yba.ntmps5
  go_wp2_with (go_at_call 9; refine (name_any _ _).mono ?_; rintro e w' ⟨rfl, rfl⟩)
  generalize hW1 : (((w.alloc (.cells #[.bool (hs 0), .bool (hs 1), .bool (hs 2)] 49)).alloc (.cells #[.int .u64 (el 0), .int .u64 (ei 0), .int .u64 (el 1), .int .u64 (ei 1), .int .u64 (el 2), .int .u64 (ei 2)] 51)).alloc (.cells #[.int .u64 c, .int .u64 i, .int .u64 p, .map none] 38)).alloc (.cells #[.int .u64 l, .int .u64 d] 40) = W1
  obtain ⟨_, _, h3, h4, hb, hsz⟩ := four_blocks hW1
  clear hW1
  refine (cover_none _ c i p l d _ W1 h3 (nameOf_le _)).mono ?_
  rintro e w2 ⟨rfl, M, hM, hB2, hT2, hF2⟩
  rw [clockBy_zero hl.1, idsBy_zero hd] at hB2
  obtain ⟨c0, c1, c2, c3, _, _, _, _⟩ := tally_cells hB2
  have hlt := lt_of_block hB2
  have h4' : w2.heap[w.heap.size + 3]? = some (.cells #[.int .u64 l, .int .u64 d] 40 (0, 0)) := (hF2.block _ (by omega) (by omega)).trans h4
  have hlt4 := lt_of_block h4'
  obtain ⟨b0, b1⟩ := box_cells h4'
  have hlook := hT2.look_ok (nameOf (r % 4)) (nameOf_le _)
  rw [put_same] at hlook
  have hneq := neq40
  have hMlt : M < w2.heap.size := by obtain ⟨es, cl, h5⟩ := hT2.isMapBlock; exact (Array.getElem?_eq_some_iff.1 h5).1
  have hT3 : Tab (w2.alloc (.cells #[.int .u64 l, .int .u64 d] 40)) M (put (fun _ => none) (nameOf (r % 4)).data.toList (l, d)) 1 := hT2.of_block (Below.heap_alloc _ _ _ hMlt)
  have hlen := hT3.len 3
  have hfin : Below w.heap.size w (w2.alloc (.cells #[.int .u64 l, .int .u64 d] 40)) := (hb.trans (hF2.below (by omega) (by omega))).alloc (by omega) _
  have HF := hide hfin
  have hs2 : w.heap.size + 2 < w2.heap.size := by omega
  clear hT3 hT2 hF2 hB2 h3 h4 h4' hb hfin hlt
  simp only [extV, Option.getD_some, Option.isSome_some] at hlook
  go_wp2
  go_ret
  exact ⟨rfl, HF.out⟩

end Go.Proofs.Ybulkaswg

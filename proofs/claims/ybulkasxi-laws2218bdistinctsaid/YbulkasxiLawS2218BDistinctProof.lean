/-
  THE PROOF OF 'Rows.LawS2218BDistinctSaid' (the guide's template at this function's number and types; the walk: YbulkasxiDistinctAll.lean).
-/
import Derived.Test.YbulkasxiRows
import Derived.Test.YbulkasxiDistinctAll
import Derived.ProofKit
import Derived.OpenShut
import Derived.ChangeOld
import Derived.Below
namespace Go.Proofs.Ybulkasxi.lawS2218BDistinct
open Go.ChangeShapes Go.WideShapes Go.ChangeAt Go.RowKit
set_option linter.unusedVariables false

theorem own : ownKnob Yba.prog.godebug = none := by kernel_rfl
theorem laidOut : laidOutB Yba.prog = true := by kernel_rfl
theorem cells55 : Yba.prog.cellsOf 55 = 4 := by kernel_rfl
theorem cells4 : Yba.prog.cellsOf 4 = 1 := by kernel_rfl
theorem cells5 : Yba.prog.cellsOf 5 = 1 := by kernel_rfl

theorem okWide_array {P : Program} {w : World} {r : Reach} {base : Nat} {t : TypeId} {v : Value} {n : Nat} {e : TypeId} (ht : P.underlying t = some (.array n e)) (h : Value.okWide P w r base t v) : ∃ cs, v = .agg cs ∧ cs.size = P.cellsOf t := by
  simp only [Value.okWide, ht] at h
  obtain ⟨cs, h1, h2, _⟩ := h
  exact ⟨cs, h1, h2⟩

theorem agg4 {cs : Array Value} (h : cs.size = 4) : ∃ a b c d, cs = #[a, b, c, d] := by
  obtain ⟨l⟩ := cs
  match l, h with
  | [a, b, c, d], _ => exact ⟨a, b, c, d, rfl⟩

set_option maxRecDepth 100000 in
theorem opened55 {H : Type} {enc : TypeId × Value → H} {W : World} {base : Nat} {v : Value} {d : DataW H} {p : List MemPlace} (hv : Value.okWide Yba.prog W .any base 55 v)
    (h : DataW.Trod enc Yba.prog W 0 (fun _ => true) true 55 v d p) : ∃ hs : Nat → Bool, v = .agg #[.bool (hs 0), .bool (hs 1), .bool (hs 2), .bool (hs 3)] := by
  obtain ⟨cs, rfl, hsz⟩ := okWide_array Yba.underlying55 hv
  obtain ⟨a, b, c, e, rfl⟩ := agg4 (hsz.trans cells55)
  obtain ⟨fuel, hf⟩ := h
  obtain ⟨xs, m, _, _, _, hxl, hel⟩ := DataW.trod_array Yba.underlying55 hf
  rw [cells4] at hel
  have g0 := hel 0 (by omega)
  have g1 := hel 1 (by omega)
  have g2 := hel 2 (by omega)
  have g3 := hel 3 (by omega)
  rw [List.getElem?_eq_getElem (by omega)] at g0 g1 g2 g3
  obtain ⟨b0, e0, _⟩ := DataW.trod_bool Yba.underlying4 g0
  obtain ⟨b1, e1, _⟩ := DataW.trod_bool Yba.underlying4 g1
  obtain ⟨b2, e2, _⟩ := DataW.trod_bool Yba.underlying4 g2
  obtain ⟨b3, e3, _⟩ := DataW.trod_bool Yba.underlying4 g3
  simp [Value.cells] at e0 e1 e2 e3
  subst e0 e1 e2 e3
  exact ⟨fun i => if i = 0 then b0 else if i = 1 then b1 else if i = 2 then b2 else b3, rfl⟩

theorem plain_of_cell {w : World} {a : Addr} {v : Value} (h : w.cell? a = some v) : a = ⟨a.block, a.off, none⟩ := by
  unfold World.cell? at h
  split at h
  · split at h
    · cases h
    · rename_i hs
      cases a with
      | mk b o s => cases s with
        | none => rfl
        | some _ => simp at hs
  · cases h

theorem opened54 {H : Type} {enc : TypeId × Value → H} {W : World} {a : Option Addr} {len cap : Nat} {d : DataW H} {p : List MemPlace}
    (h : DataW.Trod enc Yba.prog W 0 (fun _ => true) true 54 (.slice a len cap) d p) : IsRow W a len := by
  obtain ⟨fuel, hf⟩ := h
  rcases open_ints Yba.underlying54 Yba.underlying5 cells5 hf with ⟨hcs, _⟩ | ⟨x, l, c, zs, hcs, _, hl, hm, hz, _, hcell, hwz⟩
  · simp [Value.cells] at hcs
    exact Or.inl hcs.2.1
  · simp [Value.cells] at hcs
    obtain ⟨rfl, rfl, rfl⟩ := hcs
    by_cases hz0 : len = 0
    · exact Or.inl hz0
    right
    have hzl : zs.length = cap := by simpa using hz
    have h0 := hcell 0 (by omega)
    have hx0 : x = ⟨x.block, x.off, none⟩ := by
      have := plain_of_cell h0
      simpa [Addr.add] using this
    have hb : x.block < W.heap.size := by
      have h0' : W.cell? x = some (.int .u8 (zs.getD 0 0)) := by rw [← h0]; simp [Addr.add]
      exact World.block_lt_of_cell? W x h0'
    have hadd : ∀ i, x.add i = ⟨x.block, x.off + i, none⟩ := fun i => by
      rw [hx0]; exact add_plain _ _ _
    refine ⟨x.block, x.off, by rw [← hx0], hb, fun i => zs.getD i 0, fun i => ?_, fun i hi => ?_⟩
    · show 0 ≤ zs.getD i 0 ∧ zs.getD i 0 ≤ 255
      by_cases hi : i < zs.length
      · have : zs.getD i 0 ∈ zs := by rw [List.getD_eq_getElem?_getD, List.getElem?_eq_getElem hi]; simp
        exact bounds_u8 (hwz _ this)
      · rw [List.getD_eq_getElem?_getD, List.getElem?_eq_none (by omega)]; simp
    · have := hcell i (by omega)
      rw [hadd] at this
      exact this

set_option maxRecDepth 100000 in
theorem lifted (os : Os) (started : os.Started) (H : Type) (enc : TypeId × Value → H) :
    ReturnsInHanded {} Yba.checked os 4 .any (Rows.lawS2218BDistinctSpec.pre6 enc Yba.prog Yba.f4 Rows.lawS2218BDistinctRow.domain false) (Rows.lawS2218BDistinctSpec.post enc Yba.prog Yba.f4 false true false false) := by
  refine returnsInHanded_of_change (C := Yba.checked) own started (by kernel_rfl) Yba.func4
    (ChangeSpec.witness6 (enc := enc) (C := Yba.checked) false ⟨#[], #[.slice none 0 0, .agg #[.bool false, .bool false, .bool false, .bool false]], []⟩ 8 (by kernel_rfl) (by kernel_rfl) (by kernel_rfl) (by kernel_rfl)) ?_
  intro W base args ds gs before hval0 hW hcnd _
  have hval : ∀ (j : Nat) t v, Yba.f4.params[j]? = some t → args[j]? = some v → Value.okWide Yba.prog W .any base t v := hval0
  have hW' := hW
  obtain ⟨p, q, hA0, hV, rfl, hfz, hnd⟩ := hW
  have hA : DataW.TrodAll enc Yba.prog W 0 (fun _ => true) true Yba.f4.params.toList args.toList ds p := hA0
  rw [Yba.params4] at hA hval
  obtain ⟨v0, vs0, d0, ds0, p0, q0, hargs, rfl, rfl, h0, r0⟩ := trodAll_cons hA
  obtain ⟨v1, vs1, d1, ds1, p1, q1, rfl, rfl, rfl, h1, r1⟩ := trodAll_cons r0
  obtain ⟨rfl, rfl, rfl⟩ := trodAll_nil r1
  obtain rfl : args = #[v0, v1] := by cases args; simp_all
  obtain ⟨rfl, rfl⟩ := trodVars_none hV
  obtain ⟨a0, len0, cap0, rfl⟩ := okWide_slice Yba.underlying54 (hval 0 54 v0 rfl rfl)
  have k0 := h0
  have lt0 : ∀ x ∈ p0, x.block < W.heap.size := by obtain ⟨m, hm⟩ := k0; exact DataW.trod_lt m _ _ _ hm
  have hrow := opened54 h0
  have k1 := h1
  have lt1 : ∀ x ∈ p1, x.block < W.heap.size := by obtain ⟨m, hm⟩ := k1; exact DataW.trod_lt m _ _ _ hm
  obtain ⟨hs, rfl⟩ := opened55 (hval 1 55 v1 rfl rfl) h1
  clear hA0 hval0
  refine (distinct_any a0 len0 cap0 hs W hrow).mono fun e W' ⟨he, bel⟩ => ?_
  subst he
  exact ⟨_, rfl, _, _, _, [], _, [], hW', trodAll_mk1 (shut_bool Yba.underlying4 _),
    (trodAll_cons_mk (Below.trod laidOut (by kernel_rfl) (of_decide_eq_true (by kernel_rfl)) k0 bel lt0) (trodAll_cons_mk (Below.trod laidOut (by kernel_rfl) (of_decide_eq_true (by kernel_rfl)) k1 bel lt1) trodAll_mk0)), rfl, bel.frame _, fun h => by cases h⟩

theorem over : Rows.lawS2218BDistinctRow.holds Yba.pinned (OpenSpec.ofChange Rows.lawS2218BDistinctSpec) :=
  OpenClaim.holds_of_wide 4 Yba.f4 rfl rfl rfl rfl rfl rfl rfl ⟨rfl, rfl, rfl, rfl, rfl⟩ rfl rfl rfl rfl rfl (by kernel_rfl) Yba.func4 (by kernel_rfl)
    (of_decide_eq_true (by kernel_rfl)) (by unfold Func.isWrapper; first | (rw [if_pos (by decide +kernel)]; kernel_rfl) | (rw [if_neg (by decide +kernel)]; exact ⟨rfl, rfl⟩))
    (fun os started H enc _ => lifted os started H enc)

/-- THE STATEMENT -/
theorem proved : Rows.LawS2218BDistinctSaid := over

end Go.Proofs.Ybulkasxi.lawS2218BDistinct

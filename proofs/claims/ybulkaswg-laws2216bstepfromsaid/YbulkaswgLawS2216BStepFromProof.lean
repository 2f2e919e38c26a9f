/-
  THE PROOF OF 'Rows.LawS2216BStepFromSaid' (the guide's template at this function's number and types; the walk: YbulkaswgStepAll.lean).
-/
import Derived.Test.YbulkaswgRows
import Derived.Test.YbulkaswgStepAll
import Derived.ProofKit
import Derived.OpenShut
import Derived.ChangeOld
import Derived.Below
namespace Go.Proofs.Ybulkaswg.lawS2216BStepFrom
open Go.ChangeShapes Go.WideShapes Go.ChangeAt Go.RowKit
set_option linter.unusedVariables false

theorem own : ownKnob Yba.prog.godebug = none := by kernel_rfl
theorem laidOut : laidOutB Yba.prog = true := by kernel_rfl
theorem cells49 : Yba.prog.cellsOf 49 = 3 := by kernel_rfl
theorem cells51 : Yba.prog.cellsOf 51 = 6 := by kernel_rfl
theorem cells50 : Yba.prog.cellsOf 50 = 2 := by kernel_rfl
theorem cells4 : Yba.prog.cellsOf 4 = 1 := by kernel_rfl
theorem cells22 : Yba.prog.cellsOf 22 = 1 := by kernel_rfl

theorem okWide_array {P : Program} {w : World} {r : Reach} {base : Nat} {t : TypeId} {v : Value} {n : Nat} {e : TypeId} (ht : P.underlying t = some (.array n e)) (h : Value.okWide P w r base t v) : ∃ cs, v = .agg cs ∧ cs.size = P.cellsOf t := by
  simp only [Value.okWide, ht] at h
  obtain ⟨cs, h1, h2, _⟩ := h
  exact ⟨cs, h1, h2⟩

theorem agg3 {cs : Array Value} (h : cs.size = 3) : ∃ a b c, cs = #[a, b, c] := by
  obtain ⟨l⟩ := cs
  match l, h with
  | [a, b, c], _ => exact ⟨a, b, c, rfl⟩
theorem agg6 {cs : Array Value} (h : cs.size = 6) : ∃ a b c d e f, cs = #[a, b, c, d, e, f] := by
  obtain ⟨l⟩ := cs
  match l, h with
  | [a, b, c, d, e, f], _ => exact ⟨a, b, c, d, e, f, rfl⟩

set_option maxRecDepth 100000 in
theorem opened49 {H : Type} {enc : TypeId × Value → H} {W : World} {base : Nat} {v : Value} {d : DataW H} {p : List MemPlace} (hv : Value.okWide Yba.prog W .any base 49 v)
    (h : DataW.Trod enc Yba.prog W 0 (fun _ => true) true 49 v d p) : ∃ hs : Nat → Bool, v = .agg #[.bool (hs 0), .bool (hs 1), .bool (hs 2)] := by
  obtain ⟨cs, rfl, hsz⟩ := okWide_array Yba.underlying49 hv
  obtain ⟨a, b, c, rfl⟩ := agg3 (hsz.trans cells49)
  obtain ⟨fuel, hf⟩ := h
  obtain ⟨xs, m, _, _, _, hxl, hel⟩ := DataW.trod_array Yba.underlying49 hf
  rw [cells4] at hel
  have g0 := hel 0 (by omega)
  have g1 := hel 1 (by omega)
  have g2 := hel 2 (by omega)
  rw [List.getElem?_eq_getElem (by omega)] at g0 g1 g2
  obtain ⟨b0, e0, _⟩ := DataW.trod_bool Yba.underlying4 g0
  obtain ⟨b1, e1, _⟩ := DataW.trod_bool Yba.underlying4 g1
  obtain ⟨b2, e2, _⟩ := DataW.trod_bool Yba.underlying4 g2
  simp [Value.cells] at e0 e1 e2
  subst e0 e1 e2
  exact ⟨fun i => if i = 0 then b0 else if i = 1 then b1 else b2, rfl⟩

set_option maxRecDepth 100000 in
theorem opened51 {H : Type} {enc : TypeId × Value → H} {W : World} {base : Nat} {v : Value} {d : DataW H} {p : List MemPlace} (hv : Value.okWide Yba.prog W .any base 51 v)
    (h : DataW.Trod enc Yba.prog W 0 (fun _ => true) true 51 v d p) : ∃ el ei : Nat → Int, v = .agg #[.int .u64 (el 0), .int .u64 (ei 0), .int .u64 (el 1), .int .u64 (ei 1), .int .u64 (el 2), .int .u64 (ei 2)] := by
  obtain ⟨cs, rfl, hsz⟩ := okWide_array Yba.underlying51 hv
  obtain ⟨a0, a1, a2, a3, a4, a5, rfl⟩ := agg6 (hsz.trans cells51)
  obtain ⟨fuel, hf⟩ := h
  obtain ⟨xs, m, _, _, _, hxl, hel⟩ := DataW.trod_array Yba.underlying51 hf
  rw [cells50] at hel
  have g0 := hel 0 (by omega)
  have g1 := hel 1 (by omega)
  have g2 := hel 2 (by omega)
  rw [List.getElem?_eq_getElem (by omega)] at g0 g1 g2
  have two : ∀ (u v : Value) (x : DataW H × List MemPlace), DataW.trod enc Yba.prog W 0 (fun _ => true) true m 50 [u, v] = some x → ∃ p q, u = .int .u64 p ∧ v = .int .u64 q := by
    intro u v x hx
    obtain ⟨ys, m', _, _, _, hyl, hy⟩ := DataW.trod_array Yba.underlying50 hx
    rw [cells22] at hy
    have k0 := hy 0 (by omega)
    have k1 := hy 1 (by omega)
    rw [List.getElem?_eq_getElem (by omega)] at k0 k1
    obtain ⟨n0, e0, _, _⟩ := DataW.trod_int Yba.underlying22 k0
    obtain ⟨n1, e1, _, _⟩ := DataW.trod_int Yba.underlying22 k1
    simp at e0 e1
    exact ⟨n0, n1, e0, e1⟩
  obtain ⟨p0, q0, rfl, rfl⟩ := two a0 a1 _ g0
  obtain ⟨p1, q1, rfl, rfl⟩ := two a2 a3 _ g1
  obtain ⟨p2, q2, rfl, rfl⟩ := two a4 a5 _ g2
  exact ⟨fun i => if i = 0 then p0 else if i = 1 then p1 else p2, fun i => if i = 0 then q0 else if i = 1 then q1 else q2, rfl⟩

set_option maxRecDepth 100000 in
theorem lifted (os : Os) (started : os.Started) (H : Type) (enc : TypeId × Value → H) :
    ReturnsInHanded {} Yba.checked os 5 .any (Rows.lawS2216BStepFromSpec.pre6 enc Yba.prog Yba.f5 Rows.lawS2216BStepFromRow.domain false) (Rows.lawS2216BStepFromSpec.post enc Yba.prog Yba.f5 false true false false) := by
  refine returnsInHanded_of_change (C := Yba.checked) own started (by kernel_rfl) Yba.func5
    (ChangeSpec.witness6 (enc := enc) (C := Yba.checked) false ⟨#[], #[.int .u64 0, .int .u64 0, .int .u64 0, .bool false, .agg #[.bool false, .bool false, .bool false], .agg #[.int .u64 0, .int .u64 0, .int .u64 0, .int .u64 0, .int .u64 0, .int .u64 0], .int .u8 0, .int .u64 0, .int .u64 0], []⟩ 8 (by kernel_rfl) (by kernel_rfl) (by kernel_rfl) (by kernel_rfl)) ?_
  intro W base args ds gs before hval0 hW hcnd _
  have hval : ∀ (j : Nat) t v, Yba.f5.params[j]? = some t → args[j]? = some v → Value.okWide Yba.prog W .any base t v := hval0
  have hW' := hW
  obtain ⟨p, q, hA0, hV, rfl, hfz, hnd⟩ := hW
  have hA : DataW.TrodAll enc Yba.prog W 0 (fun _ => true) true Yba.f5.params.toList args.toList ds p := hA0
  rw [Yba.params5] at hA hval
  obtain ⟨v0, vs0, d0, ds0, p0, q0, hargs, rfl, rfl, h0, r0⟩ := trodAll_cons hA
  obtain ⟨v1, vs1, d1, ds1, p1, q1, rfl, rfl, rfl, h1, r1⟩ := trodAll_cons r0
  obtain ⟨v2, vs2, d2, ds2, p2, q2, rfl, rfl, rfl, h2, r2⟩ := trodAll_cons r1
  obtain ⟨v3, vs3, d3, ds3, p3, q3, rfl, rfl, rfl, h3, r3⟩ := trodAll_cons r2
  obtain ⟨v4, vs4, d4, ds4, p4, q4, rfl, rfl, rfl, h4, r4⟩ := trodAll_cons r3
  obtain ⟨v5, vs5, d5, ds5, p5, q5, rfl, rfl, rfl, h5, r5⟩ := trodAll_cons r4
  obtain ⟨v6, vs6, d6, ds6, p6, q6, rfl, rfl, rfl, h6, r6⟩ := trodAll_cons r5
  obtain ⟨v7, vs7, d7, ds7, p7, q7, rfl, rfl, rfl, h7, r7⟩ := trodAll_cons r6
  obtain ⟨v8, vs8, d8, ds8, p8, q8, rfl, rfl, rfl, h8, r8⟩ := trodAll_cons r7
  obtain ⟨rfl, rfl, rfl⟩ := trodAll_nil r8
  obtain rfl : args = #[v0, v1, v2, v3, v4, v5, v6, v7, v8] := by cases args; simp_all
  obtain ⟨rfl, rfl⟩ := trodVars_none hV
  obtain ⟨a0, rfl, rfl, rfl, w0⟩ := open_int Yba.underlying22 (hval 0 22 v0 rfl rfl) h0
  obtain ⟨a1, rfl, rfl, rfl, w1⟩ := open_int Yba.underlying22 (hval 1 22 v1 rfl rfl) h1
  obtain ⟨a2, rfl, rfl, rfl, w2⟩ := open_int Yba.underlying22 (hval 2 22 v2 rfl rfl) h2
  obtain ⟨a3, rfl, rfl, rfl⟩ := open_bool Yba.underlying4 (hval 3 4 v3 rfl rfl) h3
  have k4 := h4
  have lt4 : ∀ x ∈ p4, x.block < W.heap.size := by obtain ⟨m, hm⟩ := k4; exact DataW.trod_lt m _ _ _ hm
  obtain ⟨hs, rfl⟩ := opened49 (hval 4 49 v4 rfl rfl) h4
  have k5 := h5
  have lt5 : ∀ x ∈ p5, x.block < W.heap.size := by obtain ⟨m, hm⟩ := k5; exact DataW.trod_lt m _ _ _ hm
  obtain ⟨el, ei, rfl⟩ := opened51 (hval 5 51 v5 rfl rfl) h5
  obtain ⟨a6, rfl, rfl, rfl, w6⟩ := open_int Yba.underlying5 (hval 6 5 v6 rfl rfl) h6
  obtain ⟨a7, rfl, rfl, rfl, w7⟩ := open_int Yba.underlying22 (hval 7 22 v7 rfl rfl) h7
  obtain ⟨a8, rfl, rfl, rfl, w8⟩ := open_int Yba.underlying22 (hval 8 22 v8 rfl rfl) h8
  clear hA0 hval0
  refine (step_any a0 a1 a2 a6 a7 a8 a3 hs el ei W (bounds_u8 w6) (bounds_u64 w7) (bounds_u64 w8)).mono fun e W' ⟨he, bel⟩ => ?_
  subst he
  exact ⟨_, rfl, _, _, _, [], _, [], hW', trodAll_mk1 (shut_bool Yba.underlying4 _),
    (trodAll_cons_mk (shut_int Yba.underlying22 w0) (trodAll_cons_mk (shut_int Yba.underlying22 w1) (trodAll_cons_mk (shut_int Yba.underlying22 w2) (trodAll_cons_mk (shut_bool Yba.underlying4 _)
      (trodAll_cons_mk (Below.trod laidOut (by kernel_rfl) (of_decide_eq_true (by kernel_rfl)) k4 bel lt4) (trodAll_cons_mk (Below.trod laidOut (by kernel_rfl) (of_decide_eq_true (by kernel_rfl)) k5 bel lt5)
      (trodAll_cons_mk (shut_int Yba.underlying5 w6) (trodAll_cons_mk (shut_int Yba.underlying22 w7) (trodAll_cons_mk (shut_int Yba.underlying22 w8) trodAll_mk0))))))))), rfl, bel.frame _, fun h => by cases h⟩

theorem over : Rows.lawS2216BStepFromRow.holds Yba.pinned (OpenSpec.ofChange Rows.lawS2216BStepFromSpec) :=
  OpenClaim.holds_of_wide 5 Yba.f5 rfl rfl rfl rfl rfl rfl rfl ⟨rfl, rfl, rfl, rfl, rfl⟩ rfl rfl rfl rfl rfl (by kernel_rfl) Yba.func5 (by kernel_rfl)
    (of_decide_eq_true (by kernel_rfl)) (by unfold Func.isWrapper; first | (rw [if_pos (by decide +kernel)]; kernel_rfl) | (rw [if_neg (by decide +kernel)]; exact ⟨rfl, rfl⟩))
    (fun os started H enc _ => lifted os started H enc)

/-- THE STATEMENT -/
theorem proved : Rows.LawS2216BStepFromSaid := over

end Go.Proofs.Ybulkaswg.lawS2216BStepFrom

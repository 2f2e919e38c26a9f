/-
  THE PROOF OF 'Rows.LawS2216BScriptSaid' (the guide's template at this function's number and types; the walk: YbulkaswgScriptAll.lean).
-/
import Derived.Test.YbulkaswgRows
import Derived.Test.YbulkaswgScriptAll
import Derived.ProofKit
import Derived.OpenShut
import Derived.ChangeOld
import Derived.Below
import Derived.Deep.Slices
namespace Go.Proofs.Ybulkaswg.lawS2216BScript
open Go.ChangeShapes Go.WideShapes Go.ChangeAt Go.RowKit Go.Deep
set_option linter.unusedVariables false

theorem own : ownKnob Yba.prog.godebug = none := by kernel_rfl
theorem laidOut : laidOutB Yba.prog = true := by kernel_rfl
theorem cells44 : Yba.prog.cellsOf 44 = 3 := by kernel_rfl
theorem cells5 : Yba.prog.cellsOf 5 = 1 := by kernel_rfl
theorem cells22 : Yba.prog.cellsOf 22 = 1 := by kernel_rfl

theorem plain_of_cell {w : World} {a : Addr} {v : Value} (h : w.cell? a = some v) : a = ⟨a.block, a.off, none⟩ := by
  unfold World.cell? at h
  split at h
  · split at h
    · cases h
    · rename_i hs
      cases a with
      | mk b o s => cases s with
        | none => rfl
        | some _ => simp at hs
  · cases h

set_option maxRecDepth 100000 in
theorem opened {H : Type} {enc : TypeId × Value → H} {W : World} {a : Option Addr} {len cap : Nat} {d : DataW H} {p : List MemPlace}
    (h : DataW.Trod enc Yba.prog W 0 (fun _ => true) true 35 (.slice a len cap) d p) : IsSteps W a len := by
  obtain ⟨fuel, hf⟩ := h
  rcases open_slice Yba.underlying35 hf with ⟨hcs, _⟩ | ⟨x, l, c, m, n, D, Pl, hcs, _, hl, hm, hmm, _, hx⟩
  · simp [Value.cells] at hcs
    exact Or.inl hcs.2.1
  · simp [Value.cells] at hcs
    obtain ⟨rfl, rfl, rfl⟩ := hcs
    by_cases hz : len = 0
    · exact Or.inl hz
    right
    simp only [if_true] at hmm
    subst hmm
    have each : ∀ i, i < len → ∃ q : Int × Int × Int, (0 ≤ q.1 ∧ q.1 ≤ 255) ∧ W.cell? (x.add (i * 3)) = some (.int .u8 q.1) ∧ W.cell? (x.add (i * 3 + 1)) = some (.int .u64 q.2.1) ∧ W.cell? (x.add (i * 3 + 2)) = some (.int .u64 q.2.2) := by
      intro i hi
      obtain ⟨cs', h1, h2⟩ := hx i (by omega)
      rw [cells44] at h1
      obtain ⟨_, hlen, hcell⟩ := World.cells?_some h1
      obtain ⟨xs, k, hk, hxy, _, hxl, hfl⟩ := DataW.trod_struct Yba.underlying44 h2
      match xs, hxl, cs', hlen with
      | [y0, y1, y2], _, [v0, v1, v2], _ =>
        have g0 := hfl 0 _ rfl
        have g1 := hfl 1 _ rfl
        have g2 := hfl 2 _ rfl
        simp [cells5, cells22] at g0 g1 g2
        have e0 := hcell 0 (by omega)
        have e1 := hcell 1 (by omega)
        have e2 := hcell 2 (by omega)
        rw [add_add] at e0 e1 e2
        obtain ⟨r, f0, _, w0⟩ := DataW.trod_int Yba.underlying5 g0
        obtain ⟨l, f1, _, w1⟩ := DataW.trod_int Yba.underlying22 g1
        obtain ⟨d, f2, _, w2⟩ := DataW.trod_int Yba.underlying22 g2
        simp at f0 f1 f2
        subst f0 f1 f2
        exact ⟨(r, l, d), bounds_u8 w0, by simpa using e0, by simpa using e1, by simpa using e2⟩
    obtain ⟨q, hq⟩ := choose_lt each
    have h0 := (hq 0 (by omega)).2.1
    have hx0 : x = ⟨x.block, x.off, none⟩ := by
      have := plain_of_cell h0
      simpa [Addr.add] using this
    have hb : x.block < W.heap.size := by
      have h0' : W.cell? x = some (.int .u8 (q 0).1) := by simpa [Addr.add] using h0
      unfold World.cell? at h0'
      split at h0'
      · rename_i hh
        exact (Array.getElem?_eq_some_iff.1 hh).1
      · cases h0'
    have hadd : ∀ i, x.add i = ⟨x.block, x.off + i, none⟩ := fun i => by
      rw [hx0]; exact add_plain _ _ _
    refine ⟨x, by rw [← hx0], hb, fun i => if i < len then (q i).1 else 0, fun i => (q i).2.1, fun i => (q i).2.2, fun i => ?_, fun i hi => ?_, fun i hi => ?_, fun i hi => ?_⟩
    · show 0 ≤ (if i < len then (q i).1 else 0) ∧ (if i < len then (q i).1 else 0) ≤ 255
      by_cases hi : i < len
      · rw [if_pos hi]; exact (hq i hi).1
      · rw [if_neg hi]; omega
    · have := (hq i hi).2.1
      rw [hadd] at this
      show _ = some (Value.int .u8 (if i < len then (q i).1 else 0))
      rw [if_pos hi]; exact this
    · have := (hq i hi).2.2.1
      rw [hadd] at this
      exact this
    · have := (hq i hi).2.2.2
      rw [hadd] at this
      exact this

set_option maxRecDepth 100000 in
theorem lifted (os : Os) (started : os.Started) (H : Type) (enc : TypeId × Value → H) :
    ReturnsInHanded {} Yba.checked os 4 .any (Rows.lawS2216BScriptSpec.pre6 enc Yba.prog Yba.f4 Rows.lawS2216BScriptRow.domain false) (Rows.lawS2216BScriptSpec.post enc Yba.prog Yba.f4 false true false false) := by
  refine returnsInHanded_of_change (C := Yba.checked) own started (by kernel_rfl) Yba.func4
    (ChangeSpec.witness6 (enc := enc) (C := Yba.checked) false ⟨#[], #[.slice none 0 0], []⟩ 8 (by kernel_rfl) (by kernel_rfl) (by kernel_rfl) (by kernel_rfl)) ?_
  intro W base args ds gs before hval0 hW hcnd _
  have hval : ∀ (j : Nat) t v, Yba.f4.params[j]? = some t → args[j]? = some v → Value.okWide Yba.prog W .any base t v := hval0
  have hW' := hW
  obtain ⟨p, q, hA0, hV, rfl, hfz, hnd⟩ := hW
  have hA : DataW.TrodAll enc Yba.prog W 0 (fun _ => true) true Yba.f4.params.toList args.toList ds p := hA0
  rw [Yba.params4] at hA hval
  obtain ⟨v0, vs0, d0, ds0, p0, q0, hargs, rfl, rfl, h0, r0⟩ := trodAll_cons hA
  obtain ⟨rfl, rfl, rfl⟩ := trodAll_nil r0
  obtain rfl : args = #[v0] := by cases args; simp_all
  obtain ⟨rfl, rfl⟩ := trodVars_none hV
  obtain ⟨a0, len0, cap0, rfl⟩ := okWide_slice Yba.underlying35 (hval 0 35 v0 rfl rfl)
  have k0 := h0
  have lt0 : ∀ x ∈ p0, x.block < W.heap.size := by obtain ⟨m, hm⟩ := k0; exact DataW.trod_lt m _ _ _ hm
  have hsteps := opened h0
  clear hA0 hval0
  refine (script_any a0 len0 cap0 W hsteps).mono fun e W' ⟨he, bel⟩ => ?_
  subst he
  exact ⟨_, rfl, _, _, _, [], _, [], hW', trodAll_mk1 (shut_bool Yba.underlying4 _), (trodAll_cons_mk (Below.trod laidOut (by kernel_rfl) (of_decide_eq_true (by kernel_rfl)) k0 bel lt0) trodAll_mk0), rfl, bel.frame _, fun h => by cases h⟩

theorem over : Rows.lawS2216BScriptRow.holds Yba.pinned (OpenSpec.ofChange Rows.lawS2216BScriptSpec) :=
  OpenClaim.holds_of_wide 4 Yba.f4 rfl rfl rfl rfl rfl rfl rfl ⟨rfl, rfl, rfl, rfl, rfl⟩ rfl rfl rfl rfl rfl (by kernel_rfl) Yba.func4 (by kernel_rfl)
    (of_decide_eq_true (by kernel_rfl)) (by unfold Func.isWrapper; first | (rw [if_pos (by decide +kernel)]; kernel_rfl) | (rw [if_neg (by decide +kernel)]; exact ⟨rfl, rfl⟩))
    (fun os started H enc _ => lifted os started H enc)

/-- THE STATEMENT -/
theorem proved : Rows.LawS2216BScriptSaid := over

end Go.Proofs.Ybulkaswg.lawS2216BScript

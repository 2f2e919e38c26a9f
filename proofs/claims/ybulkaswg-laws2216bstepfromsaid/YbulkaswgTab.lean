/-
  A map[string]extent that the call owns, told by a plain function: 'Tab w b f sz'.
-/
import Derived.Test.YbulkaswgProg
import Derived.Maps.OwnSet
import Derived.WalkKit
namespace Go.Proofs.Ybulkaswg
open Go.RowKit Go.Maps

theorem hide {p : Prop} (h : p) : Hid p := h

theorem law9 : Keyed Yba.prog 9 := string_keyed Yba.underlying9
theorem zero40 (w : World) : (zeroValue 40).run Yba.prog w = .ok (.agg #[.int .u64 0, .int .u64 0]) w := by kernel_rfl

/-- An extent as a value, as a datum. -/
def extV (p : Int × Int) : Value := .agg #[.int .u64 p.1, .int .u64 p.2]
def extD (p : Int × Int) : DataW Unit := .agg [.lit (.int .u64 p.1), .lit (.int .u64 p.2)]

/-- How an extent reads: through no place, in whatever world. -/
def extR (v : Value) : Option (DataW Unit × List MemPlace) :=
  match v with
  | .agg cs => match cs.toList with
    | [.int .u64 a, .int .u64 b] => some (extD (a, b), [])
    | _ => none
  | _ => none

theorem extR_mk (p : Int × Int) : extR (extV p) = some (extD p, []) := rfl

theorem extR_inv {v : Value} {z : DataW Unit × List MemPlace} (h : extR v = some z) : ∃ p, v = extV p ∧ z = (extD p, []) := by
  unfold extR at h
  split at h
  · rename_i cs
    split at h
    · rename_i a b hcs
      refine ⟨(a, b), ?_, (Option.some.inj h).symm⟩
      unfold extV
      rw [← Array.toArray_toList (xs := cs), hcs]
    · cases h
  · cases h

theorem extD_inj {p q : Int × Int} (h : extD p = extD q) : p = q := by
  unfold extD at h
  simp at h
  exact Prod.ext h.1 h.2

/-- BLOCK b OF w IS A map[string]extent OF sz ENTRIES that holds at each key what f says. -/
def Tab (w : World) (b : Nat) (f : List UInt8 → Option (Int × Int)) (sz : Nat) : Prop :=
  ∃ D, w.ownsMap Yba.prog 9 extR b sz D ∧ Maps.size D = sz ∧ (∀ s, Maps.has D (.string s) = (f s).isSome) ∧ (∀ s, D.atKey (.string s) (extD (0, 0)) = extD ((f s).getD (0, 0)))

/-- f with p at key s. -/
def put (f : List UInt8 → Option (Int × Int)) (s : List UInt8) (p : Int × Int) : List UInt8 → Option (Int × Int) := fun t => if t = s then some p else f t

theorem put_same (f : List UInt8 → Option (Int × Int)) (s : List UInt8) (p : Int × Int) : put f s p s = some p := by simp [put]
theorem put_other (f : List UInt8 → Option (Int × Int)) (s t : List UInt8) (p : Int × Int) (h : t ≠ s) : put f s p t = f t := by simp [put, h]

theorem Tab.made (w : World) : Tab (w.alloc (.map #[] 0)) w.heap.size (fun _ => none) 0 :=
  ⟨.map [], World.ownsMap_made _ _ _ _, rfl, fun _ => rfl, fun _ => rfl⟩

theorem Tab.of_block {w w' : World} {b : Nat} {f : List UInt8 → Option (Int × Int)} {sz : Nat} (h : Tab w b f sz) (hb : w'.heap[b]? = w.heap[b]?) : Tab w' b f sz := by
  obtain ⟨D, ⟨es, clock, h1, h2⟩, r⟩ := h
  exact ⟨D, ⟨es, clock, hb.trans h1, h2⟩, r⟩

theorem Tab.isMapBlock {w : World} {b : Nat} {f : List UInt8 → Option (Int × Int)} {sz : Nat} (h : Tab w b f sz) : ∃ es clock, w.heap[b]? = some (.map es clock) := by
  obtain ⟨D, ⟨es, clock, h1, _⟩, _⟩ := h
  exact ⟨es, clock, h1⟩

theorem Tab.look {w : World} {b : Nat} {f : List UInt8 → Option (Int × Int)} {sz : Nat} (h : Tab w b f sz) (s : ByteArray) (hs : s.size ≤ maxLen) :
    (Instr.lookup 36 (.map (some b)) (.string s) false).run Yba.prog w = .ok (extV ((f s.data.toList).getD (0, 0))) w := by
  obtain ⟨D, hown, hsz, hhas, hat⟩ := h
  obtain ⟨v, ps, hrun, hv⟩ := hown.lookup law9 Yba.underlying36 (zero40 w) (extR_mk (0, 0)) (WideMaps.keyOf_string_mk Yba.underlying9 hs)
  obtain ⟨p, rfl, hp⟩ := extR_inv hv
  rw [hat] at hp
  rw [hrun, extD_inj (congrArg Prod.fst hp)]

theorem Tab.look_ok {w : World} {b : Nat} {f : List UInt8 → Option (Int × Int)} {sz : Nat} (h : Tab w b f sz) (s : ByteArray) (hs : s.size ≤ maxLen) :
    (Instr.lookup 36 (.map (some b)) (.string s) true).run Yba.prog w = .ok (.tuple #[extV ((f s.data.toList).getD (0, 0)), .bool (f s.data.toList).isSome]) w := by
  obtain ⟨D, hown, hsz, hhas, hat⟩ := h
  obtain ⟨v, ps, hrun, hv⟩ := hown.look_ok law9 Yba.underlying36 (zero40 w) (extR_mk (0, 0)) (WideMaps.keyOf_string_mk Yba.underlying9 hs)
  obtain ⟨p, rfl, hp⟩ := extR_inv hv
  rw [hat] at hp
  rw [hrun, extD_inj (congrArg Prod.fst hp), hhas]

theorem Tab.len {w : World} {b : Nat} {f : List UInt8 → Option (Int × Int)} {sz : Nat} (h : Tab w b f sz) (ty : TypeId) :
    (Builtin.len_ #[36] ty #[.map (some b)]).run Yba.prog w = .ok (.int .i64 sz) w := by
  obtain ⟨D, hown, hsz, hhas, hat⟩ := h
  rw [hown.len Yba.underlying36 ty, hsz]

theorem Tab.store {w : World} {b : Nat} {f : List UInt8 → Option (Int × Int)} {sz : Nat} (h : Tab w b f sz) (hn : sz < maxLen) (s : ByteArray) (hs : s.size ≤ maxLen) (p : Int × Int) :
    ∃ es clock, (Instr.mapUpdate 36 (.map (some b)) (.string s) (extV p)).run Yba.prog w = .ok () (ChangeMaps.setBlock w b (.map es clock)) ∧
      (∀ W : World, W.heap[b]? = some (.map es clock) → Tab W b (put f s.data.toList p) (if (f s.data.toList).isSome then sz else sz + 1)) := by
  obtain ⟨D, hown, hsz, hhas, hat⟩ := h
  have htidy := hown.tidy law9
  have hkey := WideMaps.keyOf_string_mk (s := s) Yba.underlying9 hs
  obtain ⟨w', hrun, hown', es, clock, es', clock', hb, rfl⟩ := hown.store law9 Yba.underlying36 hn hkey (extR_mk p)
  refine ⟨es', clock', hrun, fun W hW => ⟨D.put (.string s.data.toList) (extD p), ?_, ?_, ?_, ?_⟩⟩
  · obtain ⟨es2, clock2, h1, F, h2, h3⟩ := hown'
    have e0 := ChangeMaps.heap_setBlock_same hb (.map es' clock')
    rw [e0] at h1
    cases h1
    refine ⟨_, _, hW, F, ?_, h3⟩
    have e1 : es'.size = Maps.size (D.put (.string s.data.toList) (extD p)) := by rw [h3]; simp [Maps.size, length_sorted]
    rw [e1, size_put htidy, hhas, hsz]
    exact Nat.le_refl _
  · rw [size_put htidy, hhas, hsz]
  · intro t
    by_cases e : t = s.data.toList
    · subst e
      rw [has_put_same htidy.isMap (show WideAt.IsKeyLit (.string _) from trivial), put_same]; rfl
    · rw [has_put_other (by simpa using e), put_other _ _ _ _ e, hhas]
  · intro t
    by_cases e : t = s.data.toList
    · subst e
      rw [atKey_put_same htidy.isMap (show WideAt.IsKeyLit (.string _) from trivial), put_same]; rfl
    · rw [atKey_put_other (by simpa using e), put_other _ _ _ _ e, hat]
end Go.Proofs.Ybulkaswg

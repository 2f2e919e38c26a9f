/-
  LawS2216AFloor: slices.Chunk's two instances as iterators (functions 10, 16; 17, 25).
-/
import Derived.RangeFuncBox
import Derived.RangeFuncLeaves
import Derived.Shelf.Abstract
import Derived.WalkKit
import Derived.OwnWalkIn
import Derived.TacticsInMore
import Derived.LoopNIn
import Derived.LoopIn
import Derived.Maps.AppendAt
import Derived.BigRegionIn
import Derived.Test.YbulkaswgProg
namespace Go.Proofs.Ybulkaswg
open Go.RowKit Go.Shelf

attribute [local go_sem] Oper.semAt_some

/-- The two boxes that Chunk's closure reads between two rounds. -/
def KeepBoxes (Bs Bn : Nat) (W W' : World) : Prop :=
  (∀ v, W.cell? ⟨Bs, 0, none⟩ = some v → W'.cell? ⟨Bs, 0, none⟩ = some v) ∧ ∀ v, W.cell? ⟨Bn, 0, none⟩ = some v → W'.cell? ⟨Bn, 0, none⟩ = some v

theorem KeepBoxes.trans {Bs Bn : Nat} {A B C : World} (h : KeepBoxes Bs Bn A B) (k : KeepBoxes Bs Bn B C) : KeepBoxes Bs Bn A C :=
  ⟨fun v e => k.1 v (h.1 v e), fun v e => k.2 v (h.2 v e)⟩

theorem keepBoxes_b {Bs Bn : Nat} (W : World) (l : Nat) (o o' : Obj) (h : W.heap[l]? = some o) (ho : o.isCells = false) : KeepBoxes Bs Bn W (W.putObj l o') :=
  ⟨fun _ e => cell_kept e (grownBy_putObj' W l o') (fun r e => by cases e; exact ⟨_, h, ho⟩), fun _ e => cell_kept e (grownBy_putObj' W l o') (fun r e => by cases e; exact ⟨_, h, ho⟩)⟩

/-- The pieces' numbers 0 .. k - 1. -/
def pieces (N : Nat) (k : Nat) (h : k ≤ N) : List {t : Nat // t < N} := (List.finRange k).map fun i => ⟨i.1, by omega⟩

theorem pieces_length (N k : Nat) (h : k ≤ N) : (pieces N k h).length = k := by simp [pieces]

theorem pieces_succ (N k : Nat) (h : k + 1 ≤ N) : pieces N (k + 1) h = pieces N k (by omega) ++ [⟨k, by omega⟩] := by
  apply List.ext_getElem
  · simp [pieces]
  · intro i h1 h2
    simp [pieces] at h1
    by_cases c : i < k
    · rw [List.getElem_append_left (by simp [pieces]; exact c)]
      simp [pieces]
    · have : i = k := by omega
      subst this
      rw [List.getElem_append_right (by simp [pieces])]
      simp [pieces]

/-- Piece k of the starts: 64 a piece, two cells a start. -/
def piece (b len k : Nat) : Value := .slice (some ⟨b, 128 * k, none⟩) (min 64 (len - 64 * k)) (min 64 (len - 64 * k))

set_option maxRecDepth 100000 in
set_option maxHeartbeats 1000000 in
theorem chunk16_in (F : Fence) (n : Nat) (h16 : F.fn 16) (hro : F.round = none) (hn : 1 ≤ n) (l Bs Bn b len cap N : Nat) (hlen : len ≤ 1024) (hcap : len ≤ cap) (hN : N = (len + 63) / 64) (J Jx : List {t : Nat // t < N} → World → Prop)
    (hY : ∀ pre x W, J pre W → pre.length < N → YieldAt F (n - 1) Yba.prog l #[piece b len x.1] W fun e W' =>
      (e = .returned (.bool true) ∧ J (pre ++ [x]) W' ∧ KeepBoxes Bs Bn W W') ∨ (e = .returned (.bool false) ∧ Jx (pre ++ [x]) W'))
    (W : World) (hJd : ∀ s V, J s V → J s V.drew) (hBs : W.cell? ⟨Bs, 0, none⟩ = some (.slice (some ⟨b, 0, none⟩) len cap)) (hBn : W.cell? ⟨Bn, 0, none⟩ = some (.int .i64 64)) (h0 : J [] W) :
    CallsIn F n Yba.prog 16 #[.func (.yield l) #[] #[], .pointer (some ⟨Bs, 0, none⟩), .pointer (some ⟨Bn, 0, none⟩)] W fun e W' => (∃ v, e = .returned v) ∧
      ((∃ ys, ys = pieces N N (Nat.le_refl _) ∧ J ys W') ∨ (∃ pre, True ∧ Jx pre W')) := by
  refine callsIn_of_wp Yba.func16 rfl h16 ?_ hro
  simp only [Yba.ntmps16, List.size_toArray, List.length_cons, List.length_nil, Nat.reduceAdd, Nat.reduceSub, Array.replicate_succ, Array.replicate_zero, List.push_toArray, List.append_toArray, List.nil_append, List.cons_append]
  gi_wp2
  gi_loopw [4] (fun i wr => ∃ (k : Nat) (hk : k ≤ N), i = .int .i64 ((64 * k : Nat) : Int) ∧ J (pieces N k hk) wr ∧ KeepBoxes Bs Bn W wr) (fun i _ => 2000 - (intOf i).toNat)
  case atStart => exact ⟨0, Nat.zero_le _, rfl, h0, fun _ e => e, fun _ e => e⟩
  case round =>
    obtain ⟨k, hk, rfl, hJs, hkb⟩ := hrel
    have hs1 := hkb.1 _ hBs
    have hn1 := hkb.2 _ hBn
    by_cases hlt : k < N
    · obtain ⟨fn, tmps, assign, body, hy, hR⟩ := hY _ ⟨k, hlt⟩ wr.drew (hJd _ _ hJs) (by rw [pieces_length]; exact hlt)
      dsimp only [piece] at hy
      have hlt' : 64 * k < len := by omega
      have hs2 : wr.drew.cell? ⟨Bs, 0, none⟩ = some (.slice (some ⟨b, 0, none⟩) len cap) := hs1
      have hn2 : wr.drew.cell? ⟨Bn, 0, none⟩ = some (.int .i64 64) := hn1
      have e2 : 64 * k * 2 = 128 * k := by omega
      gi_wp2
      gi_region
      all_goals gi_wp2
      all_goals first
        | rw [show (64 * (k : Int) + ((len - 64 * k : Nat) : Int)).toNat - 64 * k = min 64 (len - 64 * k) by omega, hy]
        | rw [show (64 * (k : Int) + 64).toNat - 64 * k = min 64 (len - 64 * k) by omega, hy]
      all_goals
        gi_wp2
        refine hR.mono ?_
        rintro e W3 (⟨rfl, hJ3, hk3⟩ | ⟨rfl, hJx3⟩)
        · have hs3 := hk3.1 _ hs2
          have hn3 := hk3.2 _ hn2
          gi_wp2
          go_roundw
          case rel => exact ⟨k + 1, by omega, by go_num, by rw [pieces_succ]; exact hJ3, (KeepBoxes.trans hkb ⟨fun _ e => e, fun _ e => e⟩).trans hk3⟩
          case measure => simp [intOf]; omega
        · gi_wp2
          refine bodyPost_ret (results_none rfl _ _ _) rfl ?_
          exact ⟨⟨_, rfl⟩, .inr ⟨_, trivial, hJx3⟩⟩
    · have hke : ¬ 64 * k < len := by omega
      gi_wp2
      go_end0
      have : k = N := by omega
      subst this
      exact ⟨⟨_, rfl⟩, .inl ⟨_, rfl, hJs⟩⟩

theorem abides_drew {β : Type} {B : Nat} {J : β → World → Prop} (h : AbidesFrom B J) (s : β) (V : World) (hs : J s V) : J s V.drew :=
  h s V V.drew none hs ⟨rfl, rfl, rfl, Nat.le_refl _, fun _ _ _ => rfl⟩ (fun r e => by cases e)

theorem chunk16_stops (F : Fence) (n : Nat) (h16 : F.fn 16) (hro : F.round = none) (hn : 1 ≤ n) (Bs Bn b len cap N : Nat) (hlen : len ≤ 1024) (hcap : len ≤ cap) (hN : N = (len + 63) / 64) (w : World) (hs : Bs < w.heap.size) (hb : Bn < w.heap.size)
    (hBs : w.cell? ⟨Bs, 0, none⟩ = some (.slice (some ⟨b, 0, none⟩) len cap)) (hBn : w.cell? ⟨Bn, 0, none⟩ = some (.int .i64 64)) :
    SeqStopsK F n Yba.prog 16 #[.pointer (some ⟨Bs, 0, none⟩), .pointer (some ⟨Bn, 0, none⟩)] (fun x : {t : Nat // t < N} => #[piece b len x.1]) (KeepBoxes Bs Bn) (fun ys => ys = pieces N N (Nat.le_refl _)) (fun _ => True) N w := fun l J Jx W hW hJ _ hY h0 =>
  chunk16_in F n h16 hro hn l Bs Bn b len cap N hlen hcap hN J Jx hY W (abides_drew hJ) ((hW.cell (p := ⟨Bs, 0, none⟩) hs).trans hBs) ((hW.cell (p := ⟨Bn, 0, none⟩) hb).trans hBn) h0

set_option maxHeartbeats 1000000 in
theorem chunk10_in (F : Fence) (n : Nat) (h10 : F.fn 10) (hro : F.round = none) (a : Option Addr) (len cap : Nat) (w : World) :
    CallsIn F n Yba.prog 10 #[.slice a len cap, .int .i64 64] w fun e w' => e = .returned (.func (.func 16) #[] #[.pointer (some ⟨w.heap.size, 0, none⟩), .pointer (some ⟨w.heap.size + 1, 0, none⟩)]) ∧ w' = (w.alloc (.cells #[.slice a len cap] 26)).alloc (.cells #[.int .i64 64] 3) := by
  refine callsIn_of_wp Yba.func10 rfl h10 ?_ hro
  simp only [Yba.ntmps10, List.size_toArray, List.length_cons, List.length_nil, Nat.reduceAdd, Nat.reduceSub, Array.replicate_succ, Array.replicate_zero, List.push_toArray, List.append_toArray, List.nil_append, List.cons_append]
  have bN := Boxed.new (w.alloc (.cells #[.slice a len cap] 26)) 3 (.int .i64 64)
  rw [World.size_alloc] at bN
  have hc := bN.cell
  gi_wp2
  go_ret
  exact ⟨rfl, rfl⟩

set_option maxHeartbeats 1000000 in
theorem chunk17_in (F : Fence) (n : Nat) (h17 : F.fn 17) (hro : F.round = none) (a : Option Addr) (len cap : Nat) (w : World) :
    CallsIn F n Yba.prog 17 #[.slice a len cap, .int .i64 16] w fun e w' => e = .returned (.func (.func 25) #[] #[.pointer (some ⟨w.heap.size, 0, none⟩), .pointer (some ⟨w.heap.size + 1, 0, none⟩)]) ∧ w' = (w.alloc (.cells #[.slice a len cap] 53)).alloc (.cells #[.int .i64 16] 3) := by
  refine callsIn_of_wp Yba.func17 rfl h17 ?_ hro
  simp only [Yba.ntmps17, List.size_toArray, List.length_cons, List.length_nil, Nat.reduceAdd, Nat.reduceSub, Array.replicate_succ, Array.replicate_zero, List.push_toArray, List.append_toArray, List.nil_append, List.cons_append]
  have bN := Boxed.new (w.alloc (.cells #[.slice a len cap] 53)) 3 (.int .i64 16)
  rw [World.size_alloc] at bN
  have hc := bN.cell
  gi_wp2
  go_ret
  exact ⟨rfl, rfl⟩

set_option maxRecDepth 100000 in
set_option maxHeartbeats 1000000 in
theorem chunk25_in (F : Fence) (n : Nat) (h25 : F.fn 25) (hro : F.round = none) (hn : 1 ≤ n) (l Bs Bn b len cap : Nat) (hl1 : 1 ≤ len) (hlen : len ≤ 16) (hcap : len ≤ cap) (J Jx : List Unit → World → Prop)
    (hY : ∀ pre x W, J pre W → pre.length < 1 → YieldAt F (n - 1) Yba.prog l #[.slice (some ⟨b, 0, none⟩) len len] W fun e W' =>
      (e = .returned (.bool true) ∧ J (pre ++ [x]) W' ∧ KeepBoxes Bs Bn W W') ∨ (e = .returned (.bool false) ∧ Jx (pre ++ [x]) W'))
    (W : World) (hJd : ∀ s V, J s V → J s V.drew) (hBs : W.cell? ⟨Bs, 0, none⟩ = some (.slice (some ⟨b, 0, none⟩) len cap)) (hBn : W.cell? ⟨Bn, 0, none⟩ = some (.int .i64 16)) (h0 : J [] W) :
    CallsIn F n Yba.prog 25 #[.func (.yield l) #[] #[], .pointer (some ⟨Bs, 0, none⟩), .pointer (some ⟨Bn, 0, none⟩)] W fun e W' => (∃ v, e = .returned v) ∧
      ((∃ ys, ys = [()] ∧ J ys W') ∨ (∃ pre, True ∧ Jx pre W')) := by
  refine callsIn_of_wp Yba.func25 rfl h25 ?_ hro
  simp only [Yba.ntmps25, List.size_toArray, List.length_cons, List.length_nil, Nat.reduceAdd, Nat.reduceSub, Array.replicate_succ, Array.replicate_zero, List.push_toArray, List.append_toArray, List.nil_append, List.cons_append]
  gi_wp2
  gi_loopw [4] (fun i wr => ∃ k : Nat, k ≤ 1 ∧ i = .int .i64 ((16 * k : Nat) : Int) ∧ J (List.replicate k ()) wr ∧ KeepBoxes Bs Bn W wr) (fun i _ => 2000 - (intOf i).toNat)
  case atStart => exact ⟨0, Nat.zero_le _, rfl, h0, fun _ e => e, fun _ e => e⟩
  case round =>
    obtain ⟨k, hk, rfl, hJs, hkb⟩ := hrel
    have hs1 := hkb.1 _ hBs
    have hn1 := hkb.2 _ hBn
    by_cases hlt : k < 1
    · have hk0 : k = 0 := by omega
      subst hk0
      by_cases h16 : len < 16
      · obtain ⟨fn, tmps, assign, body, hy, hR⟩ := hY _ () wr.drew (hJd _ _ hJs) (by simp)
        have hs2 : wr.drew.cell? ⟨Bs, 0, none⟩ = some (.slice (some ⟨b, 0, none⟩) len cap) := hs1
        have hn2 : wr.drew.cell? ⟨Bn, 0, none⟩ = some (.int .i64 16) := hn1
        gi_wp2
        gi_region
        all_goals gi_wp2
        all_goals first
          | refine hR.mono ?_
          | (exfalso; omega)
        all_goals
          rintro e W3 (⟨rfl, hJ3, hk3⟩ | ⟨rfl, hJx3⟩)
          · have hs3 := hk3.1 _ hs2
            have hn3 := hk3.2 _ hn2
            gi_wp2
            go_roundw
            case rel => exact ⟨1, by omega, by go_num, hJ3, (KeepBoxes.trans hkb ⟨fun _ e => e, fun _ e => e⟩).trans hk3⟩
            case measure => simp [intOf]
          · gi_wp2
            refine bodyPost_ret (results_none rfl _ _ _) rfl ?_
            exact ⟨⟨_, rfl⟩, .inr ⟨_, trivial, hJx3⟩⟩
      · have e : len = 16 := by omega
        subst e
        obtain ⟨fn, tmps, assign, body, hy, hR⟩ := hY _ () wr.drew (hJd _ _ hJs) (by simp)
        have hs2 : wr.drew.cell? ⟨Bs, 0, none⟩ = some (.slice (some ⟨b, 0, none⟩) 16 cap) := hs1
        have hn2 : wr.drew.cell? ⟨Bn, 0, none⟩ = some (.int .i64 16) := hn1
        gi_wp2
        gi_region
        all_goals gi_wp2
        all_goals first
          | refine hR.mono ?_
          | (exfalso; omega)
        all_goals
          rintro e W3 (⟨rfl, hJ3, hk3⟩ | ⟨rfl, hJx3⟩)
          · have hs3 := hk3.1 _ hs2
            have hn3 := hk3.2 _ hn2
            gi_wp2
            go_roundw
            case rel => exact ⟨1, by omega, by go_num, hJ3, (KeepBoxes.trans hkb ⟨fun _ e => e, fun _ e => e⟩).trans hk3⟩
            case measure => simp [intOf]
          · gi_wp2
            refine bodyPost_ret (results_none rfl _ _ _) rfl ?_
            exact ⟨⟨_, rfl⟩, .inr ⟨_, trivial, hJx3⟩⟩
    · have hke : ¬ 16 * k < len := by omega
      have hk1 : k = 1 := by omega
      subst hk1
      gi_wp2
      go_end0
      exact ⟨⟨_, rfl⟩, .inl ⟨_, rfl, hJs⟩⟩

theorem chunk25_stops (F : Fence) (n : Nat) (h25 : F.fn 25) (hro : F.round = none) (hn : 1 ≤ n) (Bs Bn b len cap : Nat) (hl1 : 1 ≤ len) (hlen : len ≤ 16) (hcap : len ≤ cap) (w : World) (hs : Bs < w.heap.size) (hb : Bn < w.heap.size)
    (hBs : w.cell? ⟨Bs, 0, none⟩ = some (.slice (some ⟨b, 0, none⟩) len cap)) (hBn : w.cell? ⟨Bn, 0, none⟩ = some (.int .i64 16)) :
    SeqStopsK F n Yba.prog 25 #[.pointer (some ⟨Bs, 0, none⟩), .pointer (some ⟨Bn, 0, none⟩)] (fun _ : Unit => #[Value.slice (some ⟨b, 0, none⟩) len len]) (KeepBoxes Bs Bn) (fun ys => ys = [()]) (fun _ => True) 1 w := fun l J Jx W hW hJ _ hY h0 =>
  chunk25_in F n h25 hro hn l Bs Bn b len cap hl1 hlen hcap J Jx hY W (abides_drew hJ) ((hW.cell (p := ⟨Bs, 0, none⟩) hs).trans hBs) ((hW.cell (p := ⟨Bn, 0, none⟩) hb).trans hBn) h0

end Go.Proofs.Ybulkaswg

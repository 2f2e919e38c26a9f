/-
  LawS2216AFloor: the atomic pointers (26, 29, 18, 21), takes (19).
-/
import Derived.Test.YbulkaswgTree
import Derived.WalkKit
import Derived.WalkSpells
import Derived.WalkLawsBesides
import Derived.BigQuiet
import Derived.Deep.Light
import Derived.Laws.LoneSync
namespace Go.Proofs.Ybulkaswg
open Go.RowKit Go.Shelf

theorem run26 {a : Addr} {x : Option Addr} {w : World} (hc : w.cell? a = some (.pointer x)) : (callFunc 26 #[.pointer (some a)]).run Yba.prog w = .ok (.value (.pointer x)) w := by
  rw [run_callFunc_extern Yba.func26 (by kernel_rfl) (by kernel_rfl) (by kernel_rfl) (show Extern.find Yba.f26 = some (Extern.Atomic.loadT .ptr) by kernel_rfl)]
  change (Sem.run Yba.prog (do Extern.Atomic.read .ptr (← asAddr (.pointer (some a)))) w).andThen _ = _
  simp [Extern.Atomic.read, asAddr, hc, Result.andThen]

theorem run29 {a : Addr} {y u : Value} {w : World} (hy : y.oneCell' = true) (hc : w.cell? a = some u) (hz : w.frozen? a = false) : (callFunc 29 #[.pointer (some a), y]).run Yba.prog w = .ok (.value (.tuple #[])) (w.setCell a y) := by
  rw [run_callFunc_extern Yba.func29 (by kernel_rfl) (by kernel_rfl) (by kernel_rfl) (show Extern.find Yba.f29 = some Extern.Atomic.storeT by kernel_rfl)]
  change (Sem.run Yba.prog (do
    store (← asAddr (.pointer (some a))) y .atomic
    pure Extern.Atomic.none_) w).andThen _ = _
  simp [asAddr, hc, hz, run_store Yba.prog w a y .atomic hy, Result.andThen, Extern.Atomic.none_]

theorem back_some {B : Nat} {cur : Array Value} {fz : Nat × Nat} {w : World} (h : w.heap[B]? = some (.cells cur 59 fz)) (hs : cur.size = 4) : (convert 63 57 (.pointer (some ⟨B, 0, none⟩))).run Yba.prog w = .ok (.pointer (some ⟨B, 0, none⟩)) w := by
  have hsh : w.shape? B = some (59, 4) := by simp [World.shape?, h, hs]
  have hl : liesAt Yba.prog Yba.prog.depth 59 (4 / Yba.prog.cellsOf 59) 0 59 1 = true := by kernel_rfl
  have hz : (Yba.prog.info? 59).map (fun i => decide (i.size = 0)) = some false := by kernel_rfl
  obtain ⟨i, hi, hz0⟩ := Option.map_eq_some_iff.1 hz
  have hz1 : i.size ≠ 0 := by simpa using hz0
  simp [convert, Conv.unsafePointer, Conv.seenAt, viewAt, variablesAt, sizeOf, typeInfo, run_underlying Yba.underlying63, run_underlying Yba.underlying57, hi, hz1, hsh, hl, Result.andThen]

theorem back_none (w : World) : (convert 63 57 (.pointer none)).run Yba.prog w = .ok (.pointer none) w := by
  simp [convert, Conv.unsafePointer, run_underlying Yba.underlying63, run_underlying Yba.underlying57, Result.andThen]

theorem to_none (w : World) : (convert 57 63 (.pointer none)).run Yba.prog w = .ok (.pointer none) w := by
  simp [convert, Conv.unsafePointer, run_underlying Yba.underlying63, run_underlying Yba.underlying57, Result.andThen]

theorem to_some {B : Nat} {v : Value} {w : World} (hc : w.cell? ⟨B, 0, none⟩ = some v) : (convert 57 63 (.pointer (some ⟨B, 0, none⟩))).run Yba.prog w = .ok (.pointer (some ⟨B, 0, none⟩)) w :=
  run_convert_to_unsafe Yba.underlying57 Yba.underlying63 (by kernel_rfl) hc

set_option maxRecDepth 100000 in
set_option maxHeartbeats 400000 in
theorem load18 (X o : Nat) (x : Option Addr) (w : World) (hc : w.cell? ⟨X, o, none⟩ = some (.pointer x)) (hv : (convert 63 57 (.pointer x)).run Yba.prog w = .ok (.pointer x) w) : Calls Yba.prog 18 #[.pointer (some ⟨X, o, none⟩)] w fun e w' => e = .returned (.pointer x) ∧ w' = w := by
  have h26 := run26 hc
  go_enter Yba.func18, Yba.ntmps18
  go_wp2
  go_ret
  exact ⟨rfl, rfl⟩

set_option maxRecDepth 100000 in
set_option maxHeartbeats 400000 in
theorem store21 (X o : Nat) (x : Option Addr) (u : Value) (w : World) (hc : w.cell? ⟨X, o, none⟩ = some u) (hz : w.frozen? ⟨X, o, none⟩ = false) (hv : (convert 57 63 (.pointer x)).run Yba.prog w = .ok (.pointer x) w) : Calls Yba.prog 21 #[.pointer (some ⟨X, o, none⟩), .pointer x] w fun e w' => e = .returned (.tuple #[]) ∧ w' = w.setCell ⟨X, o, none⟩ (.pointer x) := by
  have h29 := run29 (y := .pointer x) rfl hc hz
  go_enter Yba.func21, Yba.ntmps21
  go_wp2
  go_end0
  exact ⟨rfl, rfl⟩

theorem takes_nil (q : Nat) (w : World) : Calls Yba.prog 19 #[.pointer none, .int .u64 (q : Int)] w fun e w' => e = .returned (.bool false) ∧ w' = w := by
  go_enter Yba.func19, Yba.ntmps19
  go_wp2
  go_ret
  exact ⟨rfl, rfl⟩

set_option maxRecDepth 100000 in
set_option maxHeartbeats 400000 in
theorem takes_last (B b o n A0 q : Nat) (w : World) (hn : 0 < n) (h2 : w.cell? ⟨B, 2, none⟩ = some (.slice (some ⟨b, o, none⟩) n n)) (h3 : w.cell? ⟨B, 3, none⟩ = some (.pointer none)) (hs : w.cell? ⟨b, o, none⟩ = some (.int .u64 (A0 : Int))) :
    Calls Yba.prog 19 #[.pointer (some ⟨B, 0, none⟩), .int .u64 (q : Int)] w fun e w' => e = .returned (.bool (decide (A0 ≤ q))) ∧ w' = w := by
  by_cases hq : A0 ≤ q
  · have hq' : (A0 : Int) ≤ q := by omega
    rw [decide_eq_true hq]
    go_enter Yba.func19, Yba.ntmps19
    go_wp2
    go_ret
    exact ⟨rfl, rfl⟩
  · have hq' : ¬ (A0 : Int) ≤ q := by omega
    rw [decide_eq_false hq]
    go_enter Yba.func19, Yba.ntmps19
    go_wp2
    go_ret
    exact ⟨rfl, rfl⟩

set_option maxRecDepth 100000 in
set_option maxHeartbeats 400000 in
theorem takes_mid (B b o n A0 q B' L : Nat) (w : World) (hn : 0 < n) (h2 : w.cell? ⟨B, 2, none⟩ = some (.slice (some ⟨b, o, none⟩) n n)) (h3 : w.cell? ⟨B, 3, none⟩ = some (.pointer (some ⟨B', 0, none⟩))) (hs : w.cell? ⟨b, o, none⟩ = some (.int .u64 (A0 : Int))) (hl : w.cell? ⟨B', 0, none⟩ = some (.int .u64 (L : Int))) :
    Calls Yba.prog 19 #[.pointer (some ⟨B, 0, none⟩), .int .u64 (q : Int)] w fun e w' => e = .returned (.bool (decide (A0 ≤ q ∧ q < L))) ∧ w' = w := by
  by_cases hq : A0 ≤ q
  · have hq' : (A0 : Int) ≤ q := by omega
    by_cases hL : q < L
    · have hL' : (q : Int) < L := by omega
      rw [decide_eq_true ⟨hq, hL⟩]
      go_enter Yba.func19, Yba.ntmps19
      go_wp2
      go_ret
      exact ⟨rfl, rfl⟩
    · have hL' : ¬ (q : Int) < L := by omega
      rw [decide_eq_false (fun h => hL h.2)]
      go_enter Yba.func19, Yba.ntmps19
      go_wp2
      go_ret
      exact ⟨rfl, rfl⟩
  · have hq' : ¬ (A0 : Int) ≤ q := by omega
    rw [decide_eq_false (fun h => hq h.1)]
    go_enter Yba.func19, Yba.ntmps19
    go_wp2
    go_ret
    exact ⟨rfl, rfl⟩

end Go.Proofs.Ybulkaswg

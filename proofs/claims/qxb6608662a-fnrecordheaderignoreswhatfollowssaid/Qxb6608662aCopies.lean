import Derived.Test.Qxb6608662aShared
import Derived.Deep.QuietTactic
import Derived.BigQuiet
import Derived.Laws.CopyOwn
import Derived.OpenShut
import Derived.Deep.RegionHeld
namespace Go.Proofs.Qxb6608662a
open Go.ChangeShapes Go.WideShapes Go.ChangeAt Go.RowKit
open Go.Deep
set_option linter.unusedVariables false

theorem Try.info5' : (Try.prog.info? 5).map (fun i => (i.zero, i.size, i.bytes)) = some (some (.int .u8 0), 1, 1) := by kernel_rfl
theorem Try.size5 : (Try.prog.info? 5).map (·.size) = some 1 := by kernel_rfl

theorem bytes_yes (x y : Option Addr) (l c m d : Nat) (a1 a2 a3 a4 a5 a7 a8 a9 : Int) (h : l + m ≤ 1048576) (w : World) :
    Calls Try.prog 5 #[.slice x l c, .int .u64 a1, .int .i64 a2, .int .i64 a3, .int .i64 a4, .int .i64 a5, .slice y m d, .int .u64 a7, .int .i64 a8, .int .i64 a9] w fun e w' => e = .returned (.bool true) ∧ w' = w := by
  have h' : (l : Int) + m ≤ 1048576 := by omega
  go_enter Try.func5, Try.ntmps5
  go_wp2
  go_ret
  exact ⟨rfl, rfl⟩
theorem bytes_no (x y : Option Addr) (l c m d : Nat) (a1 a2 a3 a4 a5 a7 a8 a9 : Int) (hl : l ≤ maxLen) (hm : m ≤ maxLen) (h : ¬ l + m ≤ 1048576) (w : World) :
    Calls Try.prog 5 #[.slice x l c, .int .u64 a1, .int .i64 a2, .int .i64 a3, .int .i64 a4, .int .i64 a5, .slice y m d, .int .u64 a7, .int .i64 a8, .int .i64 a9] w fun e w' => e = .returned (.bool false) ∧ w' = w := by
  unfold maxLen at hl hm
  have h' : 1048576 < (l : Int) + m := by omega
  go_enter Try.func5, Try.ntmps5
  go_wp2
  all_goals
    go_ret
    exact ⟨rfl, rfl⟩

/-- the cells that a copy brings -/
def cellsOf (z : List Int) (n : Nat) : List Value := (z.take n).map (Value.int .u8)
theorem copied (w : World) (g n : Nat) (z : List Int) (hz : n ≤ z.length) (hg : w.heap[g]? = some (.cells (splice (madeCells #[.int .u8 0] n).toList 0 (cellsOf z n)).toArray 5 (0, 0))) :
    w.rowIs g 5 n (fun j => .int .u8 (z.getD j 0)) := by
  have hl : (cellsOf z n).length = n := by simp [cellsOf]; omega
  have e : splice (madeCells #[.int .u8 0] n).toList 0 (cellsOf z n) = cellsOf z n := by
    unfold splice
    rw [hl]
    simp [madeCells]
  rw [e] at hg
  refine ⟨_, hg, by simpa using hl, fun i hi => ?_⟩
  have h1 : i < z.length := by omega
  simp [cellsOf, hi, h1]

theorem made_block (w : World) (n : Nat) : (w.alloc (.cells (madeCells #[.int .u8 0] n) 5)).heap[w.heap.size]? = some (.cells (madeCells #[.int .u8 0] n).toList.toArray 5 (0, 0)) := by
  rw [Array.toArray_toList]
  exact (MapKept.heap_alloc w _).1
theorem cellsOf_length (z : List Int) (n : Nat) (h : n ≤ z.length) : (cellsOf z n).length = n := by simp [cellsOf]; omega
theorem cellsOf_at {z : List Int} {n j : Nat} {v : Value} (h : n ≤ z.length) (hj : (cellsOf z n)[j]? = some v) : j < z.length ∧ v = .int .u8 (z.getD j 0) := by
  have h1 : j < n := by
    have := (List.getElem?_eq_some_iff.1 hj).1
    rw [cellsOf_length z n h] at this
    exact this
  have h2 : j < z.length := by omega
  refine ⟨h2, ?_⟩
  simp [cellsOf, h1, h2] at hj
  rw [← hj]
  simp [h2]
theorem cellsOf_one (z : List Int) (n : Nat) : ∀ v ∈ cellsOf z n, v.oneCell' = true := by
  intro v hv
  simp only [cellsOf, List.mem_map] at hv
  obtain ⟨a, _, rfl⟩ := hv
  rfl

theorem spend_any (r n : Int) (h0 : 0 ≤ n) (h1 : n ≤ r) (h2 : r ≤ 1048576) (w : World) :
    Calls Try.prog 6 #[.int .i64 r, .int .i64 n] w fun e w' => e = .returned (.int .i64 (r - n)) ∧ w' = w := by
  go_enter Try.func6, Try.ntmps6
  go_wp2
  go_ret
  exact ⟨rfl, rfl⟩

end Go.Proofs.Qxb6608662a

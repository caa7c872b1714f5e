import Derived.Test.Qxb6608662aRows
import Derived.WalkKit
import Derived.WalkSpells
import Derived.ProofKit
import Derived.Deep.OwnRows
namespace Go.Proofs.Qxb6608662a
open Go.ChangeShapes Go.WideShapes Go.ChangeAt Go.RowKit
set_option linter.unusedVariables false

theorem newHead_any (q t s h p : Int) (w : World) :
    Calls Try.prog 8 #[.int .u64 q, .int .i64 t, .int .i64 s, .int .i64 h, .int .i64 p] w fun e w' =>
      e = .returned (.agg #[.int .u64 q, .int .i64 t, .int .i64 s, .int .i64 h, .int .i64 p]) ∧ ∃ x, w' = w.alloc (.cells x 28) := by
  go_enter Try.func8, Try.ntmps8
  go_wp2
  simp [bodyPost, results, Try.results8, go_sem]
  exact ⟨_, rfl⟩

theorem size_any (q t : Int) (s h p : Nat) (hs : s ≤ 65536) (hh : h ≤ 65536) (hp : p ≤ 65536) (w : World) :
    Calls Try.prog 9 #[.agg #[.int .u64 q, .int .i64 t, .int .i64 s, .int .i64 h, .int .i64 p]] w fun e w' =>
      e = .returned (.int .i64 ((34 + s + h + p + 4 : Nat) : Int)) ∧ ∃ x y, w' = (w.alloc (.cells x 28)).alloc (.cells y 28) := by
  go_enter Try.func9, Try.ntmps9
  go_wp2
  go_ret
  refine ⟨?_, _, _, rfl⟩
  simp

/-- recordHeader, by way of ZZrecordHeader: h cells from 34 + s on (where nothing is left behind them Go leaves the address as it was: then h is 0). -/
theorem header_any (b L : Nat) (q t : Int) (s h : Nat) (p : Int) (hs : s ≤ 65536) (hL : 34 + s + h ≤ L) (hC' : L ≤ 4294967296) (w : World) :
    Calls Try.prog 7 #[.slice (some ⟨b, 0, none⟩) L L, .agg #[.int .u64 q, .int .i64 t, .int .i64 s, .int .i64 h, .int .i64 p]] w fun e w' =>
      (∃ o, e = .returned (.slice (some ⟨b, o, none⟩) h (L - (34 + s))) ∧ (0 < h → o = 34 + s)) ∧ ∃ x y, w' = (w.alloc (.cells x 28)).alloc (.cells y 28) := by
  by_cases hz : L = 34 + s
  · have h0 : h = 0 := by omega
    subst h0
    subst hz
    go_enter Try.func7, Try.ntmps7
    go_wp2
    go_ret
    refine ⟨⟨0, ?_, by omega⟩, _, _, rfl⟩
    simp
  · have hz' : ¬ L - (34 + s) = 0 := by omega
    go_enter Try.func7, Try.ntmps7
    go_wp2
    go_ret
    refine ⟨⟨34 + s, ?_, fun _ => rfl⟩, _, _, rfl⟩
    simp
end Go.Proofs.Qxb6608662a

import Derived.Test.Qxb6608662aCopies
namespace Go.Proofs.Qxb6608662a
open Go.ChangeShapes Go.WideShapes Go.ChangeAt Go.RowKit
open Go.Deep
set_option linter.unusedVariables false

set_option maxRecDepth 100000 in
set_option maxHeartbeats 1000000 in
theorem ign_early (x : Addr) (l c m d : Nat) (z z6 : List Int) (y : Option Addr) (a1 a2 a3 a4 a5 a7 a8 a9 : Int) (w : World)
    (hlc : l ≤ c) (hzl : z.length = c) (hz : ∀ i, i < z.length → w.cell? (x.add i) = some (.int .u8 (z.getD i 0)))
    (hsum : l + m ≤ 1048576) (hno : ¬ ((0 ≤ a3 ∧ a3 ≤ 65535) ∧ (0 ≤ a4 ∧ a4 ≤ 4294967295) ∧ (0 ≤ a5 ∧ a5 ≤ 4294967295) ∧ (0 ≤ a9 ∧ a9 ≤ 4294967295) ∧ 34 ≤ (l : Int) - a4 - a3)) :
    Calls Try.prog 3 #[.slice (some x) l c, .int .u64 a1, .int .i64 a2, .int .i64 a3, .int .i64 a4, .int .i64 a5, .slice y m d, .int .u64 a7, .int .i64 a8, .int .i64 a9] w fun e w' => e = .returned (.bool true) ∧ Below w.heap.size w w' := by
  have hmk := run_make_row' (P := Try.prog) 22 5 (.int .u8 0) 1 Try.underlying22 Try.info5' rfl .i64 .i64 l (by omega) (by omega)
  have q22 : ∀ (w : World) (a : Option Addr) (n c n' c' : Nat), (binOp .neq 22 (.slice a n c) (.slice none n' c')).run Try.prog w = .ok (.bool (!a.isNone)) w := fun w a n c n' c' => run_neq_slice_nil_any w _ _ a n c n' c' Try.underlying22
  have hsum' : (l : Int) + m ≤ 1048576 := by omega
  have HZ : Hid (∀ i, i < z.length → w.cell? (x.add i) = some (.int .u8 (z.getD i 0))) := hz
  have HL : Hid (z.length = c) := hzl
  clear hz hzl
  go_enter Try.func3, Try.ntmps3
  go_wp2_with fail
  refine (bytes_yes _ _ _ _ _ _ _ _ _ _ _ _ _ _ hsum _).mono ?_
  rintro e w1 ⟨rfl, rfl⟩
  go_wp2_with (refine wpList_copy_splice rfl (.tmp 47) (.tmp 48) 22 22 rfl 5 Try.underlying22 Try.size5 _ _ _ _ _ _ rfl rfl w1.heap.size 0 (madeCells #[.int .u8 0] l).toList 5 (made_block w1 l) (cellsOf z l) (by rw [cellsOf_length z l (by rw [HL.out]; exact hlc)]; simp) (fun _ => ⟨rfl, x, rfl, fun j v hj => by obtain ⟨h1, rfl⟩ := cellsOf_at (by rw [HL.out]; exact hlc) hj; have hc := HZ.out j h1; rw [World.cell?_alloc_some _ _ _ (by rw [hc]; rfl)]; exact hc⟩) (by rw [cellsOf_length z l (by rw [HL.out]; exact hlc)]; simp [madeCells]) (cellsOf_one z l) w1.heap.size w1 ((Below.refl _ _).alloc (Nat.le_refl _) _) (Nat.le_refl _) ?_; intro w2 HG2 HB2; clear hmk q22)
  have R2 : Hid (w2.rowIs w1.heap.size 5 l (fun j => .int .u8 (z.getD j 0))) := copied w2 w1.heap.size l z (by rw [HL.out]; exact hlc) HG2.out
  have B2 : Hid (Below w1.heap.size w1 w2) := HB2
  clear HG2 HB2
  refine (spend_any 1048576 l (by omega) (by omega) (by omega) _).mono ?_
  rintro e w3 ⟨rfl, rfl⟩
  go_wp2_with fail
  refine (spend_any (1048576 - l) m (by omega) (by omega) (by omega) _).mono ?_
  rintro e w3 ⟨rfl, rfl⟩
  clear R2
  go_wp2_with fail
  all_goals first
    | (go_ret; exact ⟨rfl, B2.out⟩)
    | (exfalso; omega)
end Go.Proofs.Qxb6608662a

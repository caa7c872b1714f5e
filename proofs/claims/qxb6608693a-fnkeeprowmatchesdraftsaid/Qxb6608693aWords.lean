import Derived.Test.Qxb6608693aAtom
import Derived.Test.Qxb6608693aBase
namespace Go.Proofs.Qxb6608693a
open Go.RowKit Go.Deep Srt
set_option linter.unusedVariables false

/-- the graph at block G: no row yet, no words; its draft -/
structure GAt (w : World) (G : Nat) (v1 v2 v3 : Value) : Prop where
  rows : w.cell? ⟨G, 13, none⟩ = some (.pointer none)
  block : w.cell? ⟨G, 16, none⟩ = some (.slice none 0 0)
  latest : w.cell? ⟨G, 17, none⟩ = some v1
  forked : w.cell? ⟨G, 18, none⟩ = some v2
  present : w.cell? ⟨G, 19, none⟩ = some v3
  thawed : ∀ j, w.frozen? ⟨G, j, none⟩ = false

set_option maxHeartbeats 1000000 in
theorem words_zero (G : Nat) (w : World) (h : w.cell? ⟨G, 16, none⟩ = some (.slice none 0 0)) (hf : w.frozen? ⟨G, 16, none⟩ = false) :
    Calls Try.prog 21 #[.pointer (some ⟨G, 0, none⟩), .int .i64 0] w fun e w' => e = .returned (.slice none 0 0) ∧ w' = w.setCell ⟨G, 16, none⟩ (.slice none 0 0) := by
  go_enter Try.func21, Try.ntmps21
  go_wp2
  go_ret
  exact ⟨rfl, rfl⟩

set_option maxRecDepth 100000 in
set_option maxHeartbeats 1000000 in
theorem words_core (G N S : Nat) (z : Int) (w : World) (h : w.cell? ⟨G, 16, none⟩ = some (.slice none 0 0)) (hf : w.frozen? ⟨G, 16, none⟩ = false) (hN : 0 < N) (hN2 : (N : Int) ≤ 200000) (hNS : N < S) (hS2 : (S : Int) ≤ 3300000)
    (hz : (if (16384 : Int) < 16 * (N : Int) then 16 * (N : Int) else 16384) = (S : Int)) :
    Calls Try.prog 21 #[.pointer (some ⟨G, 0, none⟩), .int .i64 N] w fun e w' => e = .returned (.slice (some ⟨w.heap.size, 0, none⟩) N N) ∧
      w' = ((w.alloc (.cells (madeCells #[.int .i32 0] S) 21)).setCell ⟨G, 16, none⟩ (.slice (some ⟨w.heap.size, 0, none⟩) S S)).setCell ⟨G, 16, none⟩ (.slice (some ⟨w.heap.size, N, none⟩) (S - N) (S - N)) := by
  have hG := cell_lt h
  have hmk := run_make_row' (P := Try.prog) 22 21 (.int .i32 0) 4 Try.underlying22 Try.info21 rfl .i64 .i64 S (by omega) (by omega)
  have hNp : (0 : Int) < N := by omega
  have hSN : ¬ S - N = 0 := by omega
  have hNS' : (N : Int) ≤ S := by omega
  by_cases hb : (16384 : Int) < 16 * (N : Int)
  · rw [if_pos hb] at hz
    simp only [← hz] at hmk
    clear hz
    go_enter Try.func21, Try.ntmps21
    go_wp2_with fail
    go_ret
    exact ⟨rfl, rfl⟩
  · rw [if_neg hb] at hz
    simp only [← hz] at hmk
    clear hz
    go_enter Try.func21, Try.ntmps21
    go_wp2_with fail
    go_ret
    exact ⟨rfl, rfl⟩

theorem words_any (G N : Nat) (w : World) (h : w.cell? ⟨G, 16, none⟩ = some (.slice none 0 0)) (hf : w.frozen? ⟨G, 16, none⟩ = false) (hN : 0 < N) (hN2 : N ≤ 200000) :
    Calls Try.prog 21 #[.pointer (some ⟨G, 0, none⟩), .int .i64 N] w fun e w' => e = .returned (.slice (some ⟨w.heap.size, 0, none⟩) N N) ∧ Step G w w' ∧ w'.heap.size = w.heap.size + 1 ∧
      (∀ j, j ≠ 16 → w'.cell? ⟨G, j, none⟩ = w.cell? ⟨G, j, none⟩) ∧ (∀ a, a.block < w.heap.size → w'.frozen? a = w.frozen? a) ∧ ∃ S, N ≤ S ∧ w'.rowIs w.heap.size 21 S (fun _ => .int .i32 0) := by
  have hG := cell_lt h
  obtain ⟨S, hS⟩ : ∃ S : Nat, (if (16384 : Int) < 16 * (N : Int) then 16 * (N : Int) else 16384) = (S : Int) := by
    by_cases hb : (16384 : Int) < 16 * (N : Int)
    · exact ⟨16 * N, by rw [if_pos hb]; omega⟩
    · exact ⟨16384, by rw [if_neg hb]; omega⟩
  have h1 : N < S := by split at hS <;> omega
  have h2 : (S : Int) ≤ 3300000 := by split at hS <;> omega
  refine (words_core G N S 0 w h hf hN (by omega) h1 h2 hS).mono ?_
  rintro e w' ⟨rfl, rfl⟩
  refine ⟨rfl, (((Step.refl _ _).alloc _).set _ _).set _ _, by simp [World.setCell], fun j hj => ?_, fun a ha => ?_, S, by omega, ?_⟩
  · rw [World.cell?_setCell_other _ _ _ _ (by simp), World.cell?_setCell_other _ _ _ _ (by simp), World.cell?_alloc_past _ _ _ hG]
  · rw [World.frozen?_setCell, World.frozen?_setCell, World.frozen?_alloc_old _ _ _ (by omega)]
  · exact ((World.rowIs_made w (.int .i32 0) S 21).setOther (show w.heap.size ≠ G from Nat.ne_of_gt hG) _).setOther (show w.heap.size ≠ G from Nat.ne_of_gt hG) _
end Go.Proofs.Qxb6608693a

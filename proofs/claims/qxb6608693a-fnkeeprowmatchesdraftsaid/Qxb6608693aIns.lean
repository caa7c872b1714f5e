import Derived.Test.Qxb6608693aBase
namespace Go.Proofs.Qxb6608693a.Srt
open Go.RowKit Go.Deep
set_option linter.unusedVariables false

set_option maxHeartbeats 1000000 in
theorem ins_any (b n lo hi : Nat) (f : Nat → Int) (w : World) (hn : n ≤ 65536) (hlo : lo ≤ hi) (hhi : hi ≤ n) (hr : Row w b n f) :
    Calls Try.prog 31 #[.slice (some ⟨b, 0, none⟩) n n, .int .i64 lo, .int .i64 hi] w fun e w' =>
      e = .returned (.tuple #[]) ∧ Step b w w' ∧ ∃ g, Row w' b n g ∧ SwapsIn lo hi f g ∧ Sorted lo hi g := by
  go_enter Try.func31, Try.ntmps31
  go_wp2
  go_loopw [6] (fun vi wr => ∃ (i : Nat) (g : Nat → Int), vi = .int .i64 i ∧ lo < i ∧ i ≤ hi + 1 ∧ Hid (Step b w wr ∧ Row wr b n g ∧ SwapsIn lo hi f g ∧ (Sorted lo i g ∨ hi ≤ i ∧ Sorted lo hi g))) (fun vi _ => hi + 1 - (intOf vi).toNat)
  case atStart => exact ⟨lo + 1, f, by go_num, by omega, by omega, Step.refl _ _, hr, SwapsIn.refl _ _ _, Or.inl fun x y h1 h2 h3 => by omega⟩
  case round =>
    obtain ⟨i, g, rfl, hi1, hi2, HI⟩ := hrel
    by_cases hlt : i < hi
    · have HS : Hid (Sorted lo i g) := by
        rcases HI.out.2.2.2 with h | h
        · exact h
        · omega
      go_wp2_with fail
      go_loopw [7] (fun vj wr2 => ∃ (j : Nat) (k : Nat → Int), vj = .int .i64 j ∧ lo ≤ j ∧ j ≤ i ∧ Hid (Step b w wr2 ∧ Row wr2 b n k ∧ SwapsIn lo hi f k ∧ Gap lo i j k)) (fun vj _ => (intOf vj).toNat)
      case atStart => exact ⟨i, g, rfl, by omega, Nat.le_refl _, HI.out.1, HI.out.2.1, HI.out.2.2.1, gap_start HS.out⟩
      case round =>
        obtain ⟨j, k, rfl, hj1, hj2, HJ⟩ := hrel
        clear HI HS
        by_cases hja : lo < j
        · have c1 := HJ.out.2.1.cell (i := j) (by omega)
          have c2 := HJ.out.2.1.cell (i := j - 1) (by omega)
          have f1 := HJ.out.2.1.frozen j
          have f2 := HJ.out.2.1.frozen (j - 1)
          go_wp2_with fail
          go_quiet ((go_at_call 37; exact Calls.quiet_of_same (less_any _ _ _)))
          go_wp2_with fail
          · have hl : lt (k j) (k (j - 1)) = true := by assumption
            go_region
            all_goals go_wp2
            go_roundw
            case rel =>
              exact ⟨j - 1, Sw k j (j - 1), by congr 1; omega, by omega, by omega, ((HJ.out.1.drewN _).set _ _).set _ _, (HJ.out.2.1.drewN _).swap _ _ rfl rfl, HJ.out.2.2.1.step hj1 (by omega) (by omega) (by omega), gap_step HJ.out.2.2.2 hja hj2 (lt_yes hl)⟩
            case measure => simp [intOf]; omega
          · have hl : lt (k j) (k (j - 1)) = false := by assumption
            go_wp2_with fail
            go_roundw
            case rel => exact ⟨i + 1, k, by go_num, by omega, by omega, HJ.out.1.drewN _, HJ.out.2.1.drewN _, HJ.out.2.2.1, Or.inl (gap_stop HJ.out.2.2.2 hj2 hj1 (Or.inr (lt_no hl)))⟩
            case measure => simp [intOf]; omega
        · have hja' : decide (lo < j) = false := by simpa using hja
          go_wp2_with fail
          go_quiet ((go_at_call 37; exact Calls.quiet_of_same (less_any _ _ _)))
          go_wp2_with fail
          go_roundw
          case rel => exact ⟨i + 1, k, by go_num, by omega, by omega, HJ.out.1.drewN _, HJ.out.2.1.drewN _, HJ.out.2.2.1, Or.inl (gap_stop HJ.out.2.2.2 hj2 hj1 (Or.inl (by omega)))⟩
          case measure => simp [intOf]; omega
    · go_wp2_with fail
      go_end0
      refine ⟨rfl, HI.out.1, g, HI.out.2.1, HI.out.2.2.1, ?_⟩
      rcases HI.out.2.2.2 with h | h
      · exact fun x y h1 h2 h3 => h x y h1 h2 (by omega)
      · exact h.2
end Go.Proofs.Qxb6608693a.Srt

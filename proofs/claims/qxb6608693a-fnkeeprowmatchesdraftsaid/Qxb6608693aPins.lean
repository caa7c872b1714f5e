import Derived.Test.Qxb6608693aBase
namespace Go.Proofs.Qxb6608693a.Srt
open Go.RowKit Go.Deep
set_option linter.unusedVariables false

/-- nothing in [lo, hi) is less than what stands before it -/
def Under (lo hi : Nat) (f : Nat → Int) : Prop := lo = 0 ∨ ∀ x, lo ≤ x → x < hi → f (lo - 1) ≤ f x
theorem SwapsIn.under {lo hi : Nat} {f g : Nat → Int} (s : SwapsIn lo hi f g) (h : Under lo hi f) : Under lo hi g := by
  rcases h with h | h
  · exact Or.inl h
  · by_cases e : lo = 0
    · exact Or.inl e
    · refine Or.inr fun x h1 h2 => ?_
      rw [s.out (t := lo - 1) (by omega)]
      exact s.all (fun v => f (lo - 1) ≤ v) h x h1 h2
/-- what the rounds carry -/
structure IS (b n lo hi : Nat) (f : Nat → Int) (w wr : World) (g : Nat → Int) : Prop where
  step : Step b w wr
  row : Row wr b n g
  sw : SwapsIn lo hi f g
theorem IS.draws {b n lo hi : Nat} {f : Nat → Int} {w wr : World} {g : Nat → Int} (h : IS b n lo hi f w wr g) (q : Nat) : IS b n lo hi f w (wr.drewN q) g := ⟨h.step.drewN q, h.row.drewN q, h.sw⟩
theorem IS.swap {b n lo hi : Nat} {f : Nat → Int} {w wr : World} {g : Nat → Int} (h : IS b n lo hi f w wr g) (i j : Nat) (h1 : lo ≤ i) (h2 : i < hi) (h3 : lo ≤ j) (h4 : j < hi) :
    IS b n lo hi f w (((wr.setCell ⟨b, i, none⟩ (.int .i32 (g j))).setCell ⟨b, j, none⟩ (.int .i32 (g i))).drew) (Sw g i j) :=
  ⟨((h.step.set _ _).set _ _).drew, World.rowIs.of_block (h.row.swap i j rfl rfl) rfl, h.sw.step h1 h2 h3 h4⟩
theorem sorted_keep {lo i : Nat} {g : Nat → Int} {p q : Nat} (h : Sorted lo i g) (hp : i ≤ p) (hq : i ≤ q) : Sorted lo i (Sw g p q) := fun x y h1 h2 h3 => by
  rw [sw_other g (by omega) (by omega), sw_other g (by omega) (by omega)]; exact h x y h1 h2 h3
theorem gap_first {lo i : Nat} {g : Nat → Int} (h : Sorted lo i g) (hi : lo < i) : Gap lo (i - 1) (i - 1) (Sw g i (i - 1)) := fun x y h1 h2 h3 h4 => by
  rw [sw_other g (by omega) (by omega), sw_other g (by omega) (by omega)]; exact h x y h1 h2 (by omega)

set_option maxHeartbeats 4000000 in
set_option maxRecDepth 100000 in
theorem pins_any (b n lo hi : Nat) (f : Nat → Int) (w : World) (hn : n ≤ 65536) (hlo : lo < hi) (hh : hi ≤ n) (hr : Row w b n f) (hu : Under lo hi f) :
    Calls Try.prog 36 #[.slice (some ⟨b, 0, none⟩) n n, .int .i64 lo, .int .i64 hi] w fun e w' =>
      ∃ t : Bool, e = .returned (.bool t) ∧ Step b w w' ∧ ∃ g, Row w' b n g ∧ SwapsIn lo hi f g ∧ (t = true → Sorted lo hi g) := by
  have HU : Hid (∀ g, SwapsIn lo hi f g → Under lo hi g) := fun g s => s.under hu
  clear hu
  go_enter Try.func36, Try.ntmps36
  go_wp2_with fail
  go_loopw [7, 8] (fun vi vt wr => ∃ (i t : Nat) (g : Nat → Int), vi = .int .i64 i ∧ vt = .int .i64 t ∧ lo < i ∧ i ≤ hi ∧ t ≤ 5 ∧ Hid (IS b n lo hi f w wr g ∧ Sorted lo i g)) (fun _ vt _ => 5 - (intOf vt).toNat)
  case atStart => exact ⟨lo + 1, 0, f, by go_num, rfl, by omega, by omega, by omega, ⟨Step.refl _ _, hr, SwapsIn.refl _ _ _⟩, fun x y h1 h2 h3 => by omega⟩
  case round =>
    obtain ⟨i0, t, g, rfl, rfl, hi01, hi02, ht, H0⟩ := hrel
    clear hr
    by_cases ht5 : t < 5
    · go_wp2_with fail
      go_loopw [7] (fun vi wr => ∃ i : Nat, vi = .int .i64 i ∧ lo < i ∧ i ≤ hi ∧ Hid (IS b n lo hi f w wr g ∧ Sorted lo i g)) (fun vi _ => hi + 1 - (intOf vi).toNat)
      case atStart => exact ⟨i0, rfl, hi01, hi02, H0⟩
      case round =>
        obtain ⟨i, rfl, hi1, hi2, H1⟩ := hrel
        clear H0 hi01 hi02
        by_cases hih : i < hi
        · have c1 := H1.out.1.row.cell (i := i) (by omega)
          have c2 := H1.out.1.row.cell (i := i - 1) (by omega)
          go_wp2_with fail
          go_quiet ((go_at_call 37; exact Calls.quiet_of_same (less_any _ _ _)))
          clear c1 c2
          go_wp2_with fail
          · have hl : (!lt (g i) (g (i - 1))) = true := by assumption
            go_roundw
            case rel => exact ⟨i + 1, by go_num, by omega, by omega, H1.out.1.draws _, sorted_snoc H1.out.2 fun _ => lt_no (by simpa using hl)⟩
            case measure => simp [intOf]; omega
          · go_ret
            exact ⟨false, rfl, H1.out.1.step.drewN _, g, H1.out.1.row.drewN _, H1.out.1.sw, fun h => by cases h⟩
          · have hl : (!lt (g i) (g (i - 1))) = false := by assumption
            have H2 : Hid (IS b n lo hi f w (wr.drewN nq) g ∧ Sorted lo i g) := ⟨H1.out.1.draws _, H1.out.2⟩
            clear H1
            generalize wr.drewN nq = w2 at H2 ⊢
            clear nq
            have c1 := H2.out.1.row.cell (i := i) (by omega)
            have c2 := H2.out.1.row.cell (i := i - 1) (by omega)
            have f1 := H2.out.1.row.frozen i
            have f2 := H2.out.1.row.frozen (i - 1)
            go_region
            have H3 : Hid (IS b n lo hi f w (((w2.setCell ⟨b, i, none⟩ (.int .i32 (g (i - 1)))).setCell ⟨b, i - 1, none⟩ (.int .i32 (g i))).drew) (Sw g i (i - 1)) ∧ Gap lo (i - 1) (i - 1) (Sw g i (i - 1))) := ⟨H2.out.1.swap i (i - 1) (by omega) (by omega) (by omega) (by omega), gap_first H2.out.2 hi1⟩
            clear H2 c1 c2 f1 f2
            generalize ((w2.setCell ⟨b, i, none⟩ (.int .i32 (g (i - 1)))).setCell ⟨b, i - 1, none⟩ (.int .i32 (g i))).drew = w3 at H3 ⊢
            generalize Sw g i (i - 1) = g3 at H3
            by_cases hb2 : 2 ≤ (i : Int) - (lo : Int)
            · go_wp2_with fail
              go_loopw [9] (fun vj wr => ∃ (j : Nat) (k : Nat → Int), vj = .int .i64 j ∧ lo ≤ j ∧ j ≤ i - 1 ∧ Hid (IS b n lo hi f w wr k ∧ Gap lo (i - 1) j k)) (fun vj _ => (intOf vj).toNat)
              case atStart => exact ⟨i - 1, g3, by congr 1; omega, by omega, by omega, H3⟩
              case round =>
                obtain ⟨j, k, rfl, hj1, hj2, H4⟩ := hrel
                clear H3
                by_cases hj0 : 1 ≤ j
                · have c1 := H4.out.1.row.cell (i := j) (by omega)
                  have c2 := H4.out.1.row.cell (i := j - 1) (by omega)
                  go_wp2_with fail
                  go_quiet ((go_at_call 37; exact Calls.quiet_of_same (less_any _ _ _)))
                  clear c1 c2
                  go_wp2_with fail
                  · have hs : (!lt (k j) (k (j - 1))) = true := by assumption
                    have H5 : Hid (IS b n lo hi f w (wr.drewN nq) k ∧ Sorted lo i k) := ⟨H4.out.1.draws _, by have := gap_stop H4.out.2 hj2 hj1 (Or.inr (lt_no (by simpa using hs))); rwa [show i - 1 + 1 = i by omega] at this⟩
                    clear H4
                    go_loopw [10] (fun vj wr => ∃ (j : Nat) (k : Nat → Int), vj = .int .i64 j ∧ i < j ∧ j ≤ hi ∧ Hid (IS b n lo hi f w wr k ∧ Sorted lo i k)) (fun vj _ => hi + 1 - (intOf vj).toNat)
                    case atStart => exact ⟨i + 1, k, by go_num, by omega, by omega, H5⟩
                    case round =>
                      obtain ⟨jj, kk, rfl, hjj1, hjj2, HR⟩ := hrel
                      clear H5
                      by_cases hjh : jj < hi
                      · have c1 := HR.out.1.row.cell (i := jj) (by omega)
                        have c2 := HR.out.1.row.cell (i := jj - 1) (by omega)
                        go_wp2_with fail
                        go_quiet ((go_at_call 37; exact Calls.quiet_of_same (less_any _ _ _)))
                        clear c1 c2
                        go_wp2_with fail
                        · go_roundw
                          case rel => exact ⟨i, t + 1, kk, rfl, by go_num, hi1, hi2, by omega, HR.out.1.draws _, HR.out.2⟩
                          case measure => simp [intOf]; omega
                        · have HT : Hid (IS b n lo hi f w (wr.drewN nq) kk ∧ Sorted lo i kk) := ⟨HR.out.1.draws _, HR.out.2⟩
                          clear HR
                          generalize wr.drewN nq = w9 at HT ⊢
                          clear nq
                          have c1 := HT.out.1.row.cell (i := jj) (by omega)
                          have c2 := HT.out.1.row.cell (i := jj - 1) (by omega)
                          have f1 := HT.out.1.row.frozen jj
                          have f2 := HT.out.1.row.frozen (jj - 1)
                          go_region
                          all_goals go_wp2
                          go_roundw
                          case rel => exact ⟨jj + 1, Sw kk jj (jj - 1), by go_num, by omega, by omega, HT.out.1.swap _ _ (by omega) (by omega) (by omega) (by omega), sorted_keep HT.out.2 (by omega) (by omega)⟩
                          case measure => simp [intOf]; omega
                      · go_wp2_with fail
                        go_roundw
                        case rel => exact ⟨i, t + 1, kk, rfl, by go_num, hi1, hi2, by omega, HR.out.1, HR.out.2⟩
                        case measure => simp [intOf]; omega
                  · have hs : (!lt (k j) (k (j - 1))) = true := by assumption
                    have H5 : Hid (IS b n lo hi f w (wr.drewN nq) k ∧ Sorted lo i k) := ⟨H4.out.1.draws _, by have := gap_stop H4.out.2 hj2 hj1 (Or.inr (lt_no (by simpa using hs))); rwa [show i - 1 + 1 = i by omega] at this⟩
                    clear H4
                    go_roundw
                    case rel => exact ⟨i, t + 1, k, rfl, by go_num, hi1, hi2, by omega, H5.out.1, H5.out.2⟩
                    case measure => simp [intOf]; omega
                  · have hs : (!lt (k j) (k (j - 1))) = false := by assumption
                    have hlj : lo < j := by
                      rcases Nat.lt_or_ge lo j with h | h
                      · exact h
                      · obtain rfl : lo = j := by omega
                        have a1 := lt_yes (by simpa using hs)
                        rcases HU.out k H4.out.1.sw with a2 | a2
                        · omega
                        · have := a2 lo (Nat.le_refl _) (by omega)
                          omega
                    have HT : Hid (IS b n lo hi f w (wr.drewN nq) k ∧ Gap lo (i - 1) j k) := ⟨H4.out.1.draws _, H4.out.2⟩
                    clear H4
                    generalize wr.drewN nq = w9 at HT ⊢
                    clear nq
                    have c1 := HT.out.1.row.cell (i := j) (by omega)
                    have c2 := HT.out.1.row.cell (i := j - 1) (by omega)
                    have f1 := HT.out.1.row.frozen j
                    have f2 := HT.out.1.row.frozen (j - 1)
                    go_region
                    all_goals go_wp2
                    go_roundw
                    case rel => exact ⟨j - 1, Sw k j (j - 1), by congr 1; omega, by omega, by omega, HT.out.1.swap _ _ (by omega) (by omega) (by omega) (by omega), gap_step HT.out.2 hlj hj2 (lt_yes (by simpa using hs))⟩
                    case measure => simp [intOf]; omega
                · go_wp2_with fail
                  · have H5 : Hid (IS b n lo hi f w (wr) k ∧ Sorted lo i k) := ⟨H4.out.1, by have := gap_stop H4.out.2 hj2 hj1 (Or.inl (by omega)); rwa [show i - 1 + 1 = i by omega] at this⟩
                    clear H4
                    go_loopw [10] (fun vj wr => ∃ (j : Nat) (k : Nat → Int), vj = .int .i64 j ∧ i < j ∧ j ≤ hi ∧ Hid (IS b n lo hi f w wr k ∧ Sorted lo i k)) (fun vj _ => hi + 1 - (intOf vj).toNat)
                    case atStart => exact ⟨i + 1, k, by go_num, by omega, by omega, H5⟩
                    case round =>
                      obtain ⟨jj, kk, rfl, hjj1, hjj2, HR⟩ := hrel
                      clear H5
                      by_cases hjh : jj < hi
                      · have c1 := HR.out.1.row.cell (i := jj) (by omega)
                        have c2 := HR.out.1.row.cell (i := jj - 1) (by omega)
                        go_wp2_with fail
                        go_quiet ((go_at_call 37; exact Calls.quiet_of_same (less_any _ _ _)))
                        clear c1 c2
                        go_wp2_with fail
                        · go_roundw
                          case rel => exact ⟨i, t + 1, kk, rfl, by go_num, hi1, hi2, by omega, HR.out.1.draws _, HR.out.2⟩
                          case measure => simp [intOf]; omega
                        · have HT : Hid (IS b n lo hi f w (wr.drewN nq) kk ∧ Sorted lo i kk) := ⟨HR.out.1.draws _, HR.out.2⟩
                          clear HR
                          generalize wr.drewN nq = w9 at HT ⊢
                          clear nq
                          have c1 := HT.out.1.row.cell (i := jj) (by omega)
                          have c2 := HT.out.1.row.cell (i := jj - 1) (by omega)
                          have f1 := HT.out.1.row.frozen jj
                          have f2 := HT.out.1.row.frozen (jj - 1)
                          go_region
                          all_goals go_wp2
                          go_roundw
                          case rel => exact ⟨jj + 1, Sw kk jj (jj - 1), by go_num, by omega, by omega, HT.out.1.swap _ _ (by omega) (by omega) (by omega) (by omega), sorted_keep HT.out.2 (by omega) (by omega)⟩
                          case measure => simp [intOf]; omega
                      · go_wp2_with fail
                        go_roundw
                        case rel => exact ⟨i, t + 1, kk, rfl, by go_num, hi1, hi2, by omega, HR.out.1, HR.out.2⟩
                        case measure => simp [intOf]; omega
                  · have H5 : Hid (IS b n lo hi f w (wr) k ∧ Sorted lo i k) := ⟨H4.out.1, by have := gap_stop H4.out.2 hj2 hj1 (Or.inl (by omega)); rwa [show i - 1 + 1 = i by omega] at this⟩
                    clear H4
                    go_roundw
                    case rel => exact ⟨i, t + 1, k, rfl, by go_num, hi1, hi2, by omega, H5.out.1, H5.out.2⟩
                    case measure => simp [intOf]; omega
            · go_wp2_with fail
              have H5 : Hid (IS b n lo hi f w (w3) g3 ∧ Sorted lo i g3) := ⟨H3.out.1, fun x y h1 h2 h3 => by omega⟩
              clear H3
              go_loopw [10] (fun vj wr => ∃ (j : Nat) (k : Nat → Int), vj = .int .i64 j ∧ i < j ∧ j ≤ hi ∧ Hid (IS b n lo hi f w wr k ∧ Sorted lo i k)) (fun vj _ => hi + 1 - (intOf vj).toNat)
              case atStart => exact ⟨i + 1, g3, by go_num, by omega, by omega, H5⟩
              case round =>
                obtain ⟨jj, kk, rfl, hjj1, hjj2, HR⟩ := hrel
                clear H5
                by_cases hjh : jj < hi
                · have c1 := HR.out.1.row.cell (i := jj) (by omega)
                  have c2 := HR.out.1.row.cell (i := jj - 1) (by omega)
                  go_wp2_with fail
                  go_quiet ((go_at_call 37; exact Calls.quiet_of_same (less_any _ _ _)))
                  clear c1 c2
                  go_wp2_with fail
                  · go_roundw
                    case rel => exact ⟨i, t + 1, kk, rfl, by go_num, hi1, hi2, by omega, HR.out.1.draws _, HR.out.2⟩
                    case measure => simp [intOf]; omega
                  · have HT : Hid (IS b n lo hi f w (wr.drewN nq) kk ∧ Sorted lo i kk) := ⟨HR.out.1.draws _, HR.out.2⟩
                    clear HR
                    generalize wr.drewN nq = w9 at HT ⊢
                    clear nq
                    have c1 := HT.out.1.row.cell (i := jj) (by omega)
                    have c2 := HT.out.1.row.cell (i := jj - 1) (by omega)
                    have f1 := HT.out.1.row.frozen jj
                    have f2 := HT.out.1.row.frozen (jj - 1)
                    go_region
                    all_goals go_wp2
                    go_roundw
                    case rel => exact ⟨jj + 1, Sw kk jj (jj - 1), by go_num, by omega, by omega, HT.out.1.swap _ _ (by omega) (by omega) (by omega) (by omega), sorted_keep HT.out.2 (by omega) (by omega)⟩
                    case measure => simp [intOf]; omega
                · go_wp2_with fail
                  go_roundw
                  case rel => exact ⟨i, t + 1, kk, rfl, by go_num, hi1, hi2, by omega, HR.out.1, HR.out.2⟩
                  case measure => simp [intOf]; omega
        · obtain rfl : i = hi := by omega
          have tst : decide ((i : Int) < (i : Int)) = false := by simp
          go_wp2_with fail
          go_quiet ((go_at_call 37; exact Calls.quiet_of_same (less_any _ _ _)))
          go_wp2_with fail
          go_ret
          exact ⟨true, rfl, H1.out.1.step.drewN _, g, H1.out.1.row.drewN _, H1.out.1.sw, fun _ => H1.out.2⟩
    · go_wp2_with fail
      go_ret
      exact ⟨false, rfl, H0.out.1.step, g, H0.out.1.row, H0.out.1.sw, fun h => by cases h⟩
end Go.Proofs.Qxb6608693a.Srt

import Derived.Test.Qxb6608693aBase
import Derived.Test.Qxb6608693aPartPure
import Derived.Deep.Cut
import Derived.Deep.CutRange
namespace Go.Proofs.Qxb6608693a.Srt
open Go.RowKit Go.Deep
set_option linter.unusedVariables false

/-- what the partition's rounds carry -/
structure PS (b n lo hi : Nat) (f : Nat → Int) (w wr : World) (i j : Nat) (g : Nat → Int) : Prop where
  step : Step b w wr
  row : Row wr b n g
  sw : SwapsIn lo hi f g
  parts : Parts lo i j hi g
theorem PS.draws {b n lo hi : Nat} {f : Nat → Int} {w wr : World} {i j : Nat} {g : Nat → Int} (h : PS b n lo hi f w wr i j g) (q : Nat) : PS b n lo hi f w (wr.drewN q) i j g := ⟨h.step.drewN q, h.row.drewN q, h.sw, h.parts⟩

set_option maxHeartbeats 4000000 in
set_option maxRecDepth 100000 in
theorem part_core (b n lo hi pv : Nat) (f : Nat → Int) (w : World) (hn : n ≤ 65536) (h1 : lo ≤ pv) (h2 : pv < hi) (hh : hi ≤ n) (hr : Row w b n f) :
    Calls Try.prog 39 #[.slice (some ⟨b, 0, none⟩) n n, .int .i64 lo, .int .i64 hi, .int .i64 pv] w fun e w' =>
      ∃ (m : Nat) (t : Bool), (e = .returned (.tuple #[.int .i64 m, .bool t]) ∧ lo ≤ m ∧ m < hi) ∧ Step b w w' ∧ ∃ g, Row w' b n g ∧ SwapsIn lo hi f g ∧ Parted lo m hi g := by
  have hlh : (lo : Int) < hi := by omega
  go_enter Try.func39, Try.ntmps39
  go_wp2_with fail
  go_cut [] from 12 (fun wc => Hid (∃ gA, PS b n lo hi f w wc (lo + 1) (hi - 1) gA))
  case first =>
    have c1 := hr.cell (i := lo) (by omega)
    have c2 := hr.cell (i := pv) (by omega)
    have f1 := hr.frozen lo
    have f2 := hr.frozen pv
    by_cases hEq : pv = lo
    · obtain rfl : pv = lo := hEq
      go_region
      all_goals go_wp2_with fail
      go_meet
      case rel => exact ⟨_, (((Step.refl _ _).set _ _).set _ _).drew, World.rowIs.of_block (hr.swap _ _ rfl rfl) rfl, SwapsIn.one f (by omega) (by omega) (by omega) (by omega), parts_start _⟩
    · go_region
      all_goals go_wp2_with fail
      go_meet
      case rel => exact ⟨_, (((Step.refl _ _).set _ _).set _ _).drew, World.rowIs.of_block (hr.swap _ _ rfl rfl) rfl, SwapsIn.one f (by omega) (by omega) (by omega) (by omega), parts_start _⟩
  case rest =>
    obtain ⟨g0, hP0⟩ := hcut.out
    have P0 : Hid (PS b n lo hi f w wc (lo + 1) (hi - 1) g0) := hP0
    clear hP0 hcut hr
    -- LOOPS
    go_wp2_with fail
    go_loopw [10] (fun vi wr => ∃ i : Nat, vi = .int .i64 i ∧ lo + 1 ≤ i ∧ i ≤ hi - 1 + 1 ∧ Hid (PS b n lo hi f w wr i (hi - 1) g0)) (fun vi _ => 65600 - (intOf vi).toNat)
    case atStart => exact ⟨lo + 1, by go_num, Nat.le_refl _, by omega, P0⟩
    case round =>
      obtain ⟨i1, rfl, hi11, hi12, P1⟩ := hrel
      clear P0
      by_cases hij1 : i1 ≤ hi - 1
      · have c1 := P1.out.row.cell (i := i1) (by omega)
        have c2 := P1.out.row.cell (i := lo) (by omega)
        have tst : (i1 : Int) ≤ ((hi : Int) - 1) := by omega
        go_wp2_with fail
        go_quiet ((go_at_call 37; exact Calls.quiet_of_same (less_any _ _ _)))
        clear c1 c2
        go_wp2_with fail
        · have hl : lt (g0 i1) (g0 lo) = true := by assumption
          go_roundw
          case rel => exact ⟨i1 + 1, by go_num, by omega, by omega, ⟨P1.out.step.drewN _, P1.out.row.drewN _, P1.out.sw, P1.out.parts.up (lt_yes hl)⟩⟩
          case measure => simp [intOf]; omega
        · have hl1 : lt (g0 i1) (g0 lo) = false := by assumption
          have P1x : Hid (PS b n lo hi f w (wr.drewN nq) i1 (hi - 1) g0) := P1.out.draws _
          clear P1
          generalize wr.drewN nq = w1x at P1x ⊢
          clear nq
          clear tst
          go_wp2_with fail
          go_loopw [11] (fun vj wr => ∃ j : Nat, vj = .int .i64 j ∧ i1 ≤ j + 1 ∧ j ≤ (hi - 1) ∧ Hid (PS b n lo hi f w wr i1 j g0)) (fun vj _ => (intOf vj).toNat)
          case atStart => exact ⟨(hi - 1), by first | rfl | (congr 1; omega), by omega, Nat.le_refl _, P1x⟩
          case round =>
            obtain ⟨j2, rfl, hj21, hj22, P2⟩ := hrel
            clear P1x
            by_cases hij2 : i1 ≤ j2
            · have c1 := P2.out.row.cell (i := j2) (by omega)
              have c2 := P2.out.row.cell (i := lo) (by omega)
              go_wp2_with fail
              go_quiet ((go_at_call 37; exact Calls.quiet_of_same (less_any _ _ _)))
              clear c1 c2
              go_wp2_with fail
              · have hl : (!lt (g0 j2) (g0 lo)) = true := by assumption
                go_roundw
                case rel => exact ⟨j2 - 1, by congr 1; omega, by omega, by omega, ⟨P2.out.step.drewN _, P2.out.row.drewN _, P2.out.sw, P2.out.parts.down (by omega) (lt_no (by simpa using hl))⟩⟩
                case measure => simp [intOf]; omega
              · have hl2 : (!lt (g0 j2) (g0 lo)) = false := by assumption
                have P2x : Hid (PS b n lo hi f w (wr.drewN nq) i1 j2 g0) := P2.out.draws _
                clear P2
                generalize wr.drewN nq = w2x at P2x ⊢
                clear nq
                have hne : i1 < j2 := by
                  have a1 := lt_no hl1
                  have a2 := lt_yes (by simpa using hl2)
                  rcases Nat.lt_or_ge i1 j2 with h | h
                  · exact h
                  · obtain rfl : i1 = j2 := by omega
                    omega
                have HC : Hid (Parts lo (i1 + 1) (j2 - 1) hi (Sw g0 i1 j2)) := P2x.out.parts.cross (by omega) hne (lt_no hl1) (lt_yes (by simpa using hl2))
                have s1 := P2x.out.row.cell (i := i1) (by omega)
                have s2 := P2x.out.row.cell (i := j2) (by omega)
                have s3 := P2x.out.row.frozen i1
                have s4 := P2x.out.row.frozen j2
                go_wp2_with fail
                go_region
                all_goals go_wp2_with fail
                go_loopw [10, 11] (fun vi vj wr => ∃ (i j : Nat) (g : Nat → Int), vi = .int .i64 i ∧ vj = .int .i64 j ∧ lo < i ∧ i ≤ j + 1 ∧ j < hi ∧ Hid (PS b n lo hi f w wr i j g)) (fun vi vj _ => (intOf vj + 1 - intOf vi).toNat)
                case atStart => exact ⟨i1 + 1, j2 - 1, _, by go_num, by congr 1; omega, by omega, by omega, by omega, ⟨((P2x.out.step.set _ _).set _ _).drew, World.rowIs.of_block (P2x.out.row.swap _ _ rfl rfl) rfl, P2x.out.sw.step (by omega) (by omega) (by omega) (by omega), HC.out⟩⟩
                case round =>
                  obtain ⟨i5, j5, g5, rfl, rfl, h51, h52, h53, P5⟩ := hrel
                  clear P2x HC s1 s2 s3 s4
                  go_wp2_with fail
                  go_loopw [10] (fun vi wr => ∃ i : Nat, vi = .int .i64 i ∧ i5 ≤ i ∧ i ≤ j5 + 1 ∧ Hid (PS b n lo hi f w wr i (j5) g5)) (fun vi _ => 65600 - (intOf vi).toNat)
                  case atStart => exact ⟨i5, rfl, Nat.le_refl _, by omega, P5⟩
                  case round =>
                    obtain ⟨i6, rfl, hi61, hi62, P6⟩ := hrel
                    clear P5
                    by_cases hij6 : i6 ≤ j5
                    · have c1 := P6.out.row.cell (i := i6) (by omega)
                      have c2 := P6.out.row.cell (i := lo) (by omega)
                      have tst : (i6 : Int) ≤ (j5 : Int) := by omega
                      go_wp2_with fail
                      go_quiet ((go_at_call 37; exact Calls.quiet_of_same (less_any _ _ _)))
                      clear c1 c2
                      go_wp2_with fail
                      · have hl : lt (g5 i6) (g5 lo) = true := by assumption
                        go_roundw
                        case rel => exact ⟨i6 + 1, by go_num, by omega, by omega, ⟨P6.out.step.drewN _, P6.out.row.drewN _, P6.out.sw, P6.out.parts.up (lt_yes hl)⟩⟩
                        case measure => simp [intOf]; omega
                      · have hl6 : lt (g5 i6) (g5 lo) = false := by assumption
                        have P6x : Hid (PS b n lo hi f w (wr.drewN nq) i6 (j5) g5) := P6.out.draws _
                        clear P6
                        generalize wr.drewN nq = w6x at P6x ⊢
                        clear nq
                        clear tst
                        go_wp2_with fail
                        go_loopw [11] (fun vj wr => ∃ j : Nat, vj = .int .i64 j ∧ i6 ≤ j + 1 ∧ j ≤ j5 ∧ Hid (PS b n lo hi f w wr i6 j g5)) (fun vj _ => (intOf vj).toNat)
                        case atStart => exact ⟨j5, by first | rfl | (congr 1; omega), by omega, Nat.le_refl _, P6x⟩
                        case round =>
                          obtain ⟨j7, rfl, hj71, hj72, P7⟩ := hrel
                          clear P6x
                          by_cases hij7 : i6 ≤ j7
                          · have c1 := P7.out.row.cell (i := j7) (by omega)
                            have c2 := P7.out.row.cell (i := lo) (by omega)
                            go_wp2_with fail
                            go_quiet ((go_at_call 37; exact Calls.quiet_of_same (less_any _ _ _)))
                            clear c1 c2
                            go_wp2_with fail
                            · have hl : (!lt (g5 j7) (g5 lo)) = true := by assumption
                              go_roundw
                              case rel => exact ⟨j7 - 1, by congr 1; omega, by omega, by omega, ⟨P7.out.step.drewN _, P7.out.row.drewN _, P7.out.sw, P7.out.parts.down (by omega) (lt_no (by simpa using hl))⟩⟩
                              case measure => simp [intOf]; omega
                            · have hl7 : (!lt (g5 j7) (g5 lo)) = false := by assumption
                              have P7x : Hid (PS b n lo hi f w (wr.drewN nq) i6 j7 g5) := P7.out.draws _
                              clear P7
                              generalize wr.drewN nq = w7x at P7x ⊢
                              clear nq
                              have hne : i6 < j7 := by
                                have a1 := lt_no hl6
                                have a2 := lt_yes (by simpa using hl7)
                                rcases Nat.lt_or_ge i6 j7 with h | h
                                · exact h
                                · obtain rfl : i6 = j7 := by omega
                                  omega
                              have HC : Hid (Parts lo (i6 + 1) (j7 - 1) hi (Sw g5 i6 j7)) := P7x.out.parts.cross (by omega) hne (lt_no hl6) (lt_yes (by simpa using hl7))
                              have s1 := P7x.out.row.cell (i := i6) (by omega)
                              have s2 := P7x.out.row.cell (i := j7) (by omega)
                              have s3 := P7x.out.row.frozen i6
                              have s4 := P7x.out.row.frozen j7
                              go_wp2_with fail
                              go_region
                              all_goals go_wp2_with fail
                              go_roundw
                              case rel => exact ⟨i6 + 1, j7 - 1, _, by go_num, by congr 1; omega, by omega, by omega, by omega, ⟨((P7x.out.step.set _ _).set _ _).drew, World.rowIs.of_block (P7x.out.row.swap _ _ rfl rfl) rfl, P7x.out.sw.step (by omega) (by omega) (by omega) (by omega), HC.out⟩⟩
                              case measure => simp [intOf]; omega
                          · have tst : decide ((i6 : Int) ≤ (j7 : Int)) = false := by simp; omega
                            go_wp2_with fail
                            go_quiet ((go_at_call 37; exact Calls.quiet_of_same (less_any _ _ _)))
                            go_wp2_with fail
                            have P7y : Hid (PS b n lo hi f w (wr.drewN nq) i6 j7 g5) := P7.out.draws _
                            clear P7
                            generalize wr.drewN nq = w7y at P7y ⊢
                            clear nq
                            go_wp2_with fail
                            have d1 := P7y.out.row.cell (i := j7) (by omega)
                            have d2 := P7y.out.row.cell (i := lo) (by omega)
                            have e1 := P7y.out.row.frozen j7
                            have e2 := P7y.out.row.frozen lo
                            by_cases hq : j7 = lo
                            · obtain rfl : j7 = lo := hq
                              go_region
                              all_goals go_wp2_with fail
                              go_ret2
                              exact ⟨_, _, ⟨rfl, by omega, by omega⟩, ((P7y.out.step.set _ _).set _ _).drew, _, World.rowIs.of_block (P7y.out.row.swap _ _ rfl rfl) rfl, P7y.out.sw.step (by omega) (by omega) (by omega) (by omega), P7y.out.parts.done (by omega) (by omega)⟩
                            · go_region
                              all_goals go_wp2_with fail
                              go_ret2
                              exact ⟨_, _, ⟨rfl, by omega, by omega⟩, ((P7y.out.step.set _ _).set _ _).drew, _, World.rowIs.of_block (P7y.out.row.swap _ _ rfl rfl) rfl, P7y.out.sw.step (by omega) (by omega) (by omega) (by omega), P7y.out.parts.done (by omega) (by omega)⟩
                    · have tst : decide ((i6 : Int) ≤ (j5 : Int)) = false := by simp; omega
                      go_wp2_with fail
                      go_quiet ((go_at_call 37; exact Calls.quiet_of_same (less_any _ _ _)))
                      go_wp2_with fail
                      have P6y : Hid (PS b n lo hi f w (wr.drewN nq) i6 (j5) g5) := P6.out.draws _
                      clear P6
                      generalize wr.drewN nq = w6y at P6y ⊢
                      clear nq
                      clear tst
                      go_loopw [11] (fun vj wr => ∃ j : Nat, vj = .int .i64 j ∧ i6 ≤ j + 1 ∧ j ≤ j5 ∧ Hid (PS b n lo hi f w wr i6 j g5)) (fun vj _ => (intOf vj).toNat)
                      case atStart => exact ⟨j5, by first | rfl | (congr 1; omega), by omega, Nat.le_refl _, P6y⟩
                      case round =>
                        obtain ⟨j8, rfl, hj81, hj82, P8⟩ := hrel
                        clear P6y
                        by_cases hij8 : i6 ≤ j8
                        · exfalso
                          omega
                        · have tst : decide ((i6 : Int) ≤ (j8 : Int)) = false := by simp; omega
                          go_wp2_with fail
                          go_quiet ((go_at_call 37; exact Calls.quiet_of_same (less_any _ _ _)))
                          go_wp2_with fail
                          have P8y : Hid (PS b n lo hi f w (wr.drewN nq) i6 j8 g5) := P8.out.draws _
                          clear P8
                          generalize wr.drewN nq = w8y at P8y ⊢
                          clear nq
                          go_wp2_with fail
                          have d1 := P8y.out.row.cell (i := j8) (by omega)
                          have d2 := P8y.out.row.cell (i := lo) (by omega)
                          have e1 := P8y.out.row.frozen j8
                          have e2 := P8y.out.row.frozen lo
                          by_cases hq : j8 = lo
                          · obtain rfl : j8 = lo := hq
                            go_region
                            all_goals go_wp2_with fail
                            go_ret2
                            exact ⟨_, _, ⟨rfl, by omega, by omega⟩, ((P8y.out.step.set _ _).set _ _).drew, _, World.rowIs.of_block (P8y.out.row.swap _ _ rfl rfl) rfl, P8y.out.sw.step (by omega) (by omega) (by omega) (by omega), P8y.out.parts.done (by omega) (by omega)⟩
                          · go_region
                            all_goals go_wp2_with fail
                            go_ret2
                            exact ⟨_, _, ⟨rfl, by omega, by omega⟩, ((P8y.out.step.set _ _).set _ _).drew, _, World.rowIs.of_block (P8y.out.row.swap _ _ rfl rfl) rfl, P8y.out.sw.step (by omega) (by omega) (by omega) (by omega), P8y.out.parts.done (by omega) (by omega)⟩
            · have tst : decide ((i1 : Int) ≤ (j2 : Int)) = false := by simp; omega
              go_wp2_with fail
              go_quiet ((go_at_call 37; exact Calls.quiet_of_same (less_any _ _ _)))
              go_wp2_with fail
              have P2y : Hid (PS b n lo hi f w (wr.drewN nq) i1 j2 g0) := P2.out.draws _
              clear P2
              generalize wr.drewN nq = w2y at P2y ⊢
              clear nq
              go_wp2_with fail
              have d1 := P2y.out.row.cell (i := j2) (by omega)
              have d2 := P2y.out.row.cell (i := lo) (by omega)
              have e1 := P2y.out.row.frozen j2
              have e2 := P2y.out.row.frozen lo
              by_cases hq : j2 = lo
              · obtain rfl : j2 = lo := hq
                go_region
                all_goals go_wp2_with fail
                go_ret2
                exact ⟨_, _, ⟨rfl, by omega, by omega⟩, ((P2y.out.step.set _ _).set _ _).drew, _, World.rowIs.of_block (P2y.out.row.swap _ _ rfl rfl) rfl, P2y.out.sw.step (by omega) (by omega) (by omega) (by omega), P2y.out.parts.done (by omega) (by omega)⟩
              · go_region
                all_goals go_wp2_with fail
                go_ret2
                exact ⟨_, _, ⟨rfl, by omega, by omega⟩, ((P2y.out.step.set _ _).set _ _).drew, _, World.rowIs.of_block (P2y.out.row.swap _ _ rfl rfl) rfl, P2y.out.sw.step (by omega) (by omega) (by omega) (by omega), P2y.out.parts.done (by omega) (by omega)⟩
      · have tst : decide ((i1 : Int) ≤ ((hi : Int) - 1)) = false := by simp; omega
        go_wp2_with fail
        go_quiet ((go_at_call 37; exact Calls.quiet_of_same (less_any _ _ _)))
        go_wp2_with fail
        have P1y : Hid (PS b n lo hi f w (wr.drewN nq) i1 (hi - 1) g0) := P1.out.draws _
        clear P1
        generalize wr.drewN nq = w1y at P1y ⊢
        clear nq
        clear tst
        go_loopw [11] (fun vj wr => ∃ j : Nat, vj = .int .i64 j ∧ i1 ≤ j + 1 ∧ j ≤ (hi - 1) ∧ Hid (PS b n lo hi f w wr i1 j g0)) (fun vj _ => (intOf vj).toNat)
        case atStart => exact ⟨(hi - 1), by first | rfl | (congr 1; omega), by omega, Nat.le_refl _, P1y⟩
        case round =>
          obtain ⟨j3, rfl, hj31, hj32, P3⟩ := hrel
          clear P1y
          by_cases hij3 : i1 ≤ j3
          · exfalso
            omega
          · have tst : decide ((i1 : Int) ≤ (j3 : Int)) = false := by simp; omega
            go_wp2_with fail
            go_quiet ((go_at_call 37; exact Calls.quiet_of_same (less_any _ _ _)))
            go_wp2_with fail
            have P3y : Hid (PS b n lo hi f w (wr.drewN nq) i1 j3 g0) := P3.out.draws _
            clear P3
            generalize wr.drewN nq = w3y at P3y ⊢
            clear nq
            go_wp2_with fail
            have d1 := P3y.out.row.cell (i := j3) (by omega)
            have d2 := P3y.out.row.cell (i := lo) (by omega)
            have e1 := P3y.out.row.frozen j3
            have e2 := P3y.out.row.frozen lo
            by_cases hq : j3 = lo
            · obtain rfl : j3 = lo := hq
              go_region
              all_goals go_wp2_with fail
              go_ret2
              exact ⟨_, _, ⟨rfl, by omega, by omega⟩, ((P3y.out.step.set _ _).set _ _).drew, _, World.rowIs.of_block (P3y.out.row.swap _ _ rfl rfl) rfl, P3y.out.sw.step (by omega) (by omega) (by omega) (by omega), P3y.out.parts.done (by omega) (by omega)⟩
            · go_region
              all_goals go_wp2_with fail
              go_ret2
              exact ⟨_, _, ⟨rfl, by omega, by omega⟩, ((P3y.out.step.set _ _).set _ _).drew, _, World.rowIs.of_block (P3y.out.row.swap _ _ rfl rfl) rfl, P3y.out.sw.step (by omega) (by omega) (by omega) (by omega), P3y.out.parts.done (by omega) (by omega)⟩
end Go.Proofs.Qxb6608693a.Srt

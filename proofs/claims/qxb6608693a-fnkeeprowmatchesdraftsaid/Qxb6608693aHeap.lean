import Derived.Test.Qxb6608693aBase
import Derived.Test.Qxb6608693aHeapPure
namespace Go.Proofs.Qxb6608693a.Srt
open Go.RowKit Go.Deep
set_option linter.unusedVariables false

set_option maxHeartbeats 1000000 in
theorem rev_any (b n lo hi : Nat) (f : Nat → Int) (w : World) (hn : n ≤ 65536) (hlo : lo < hi) (hhi : hi ≤ n) (hr : Row w b n f) :
    Calls Try.prog 35 #[.slice (some ⟨b, 0, none⟩) n n, .int .i64 lo, .int .i64 hi] w fun e w' =>
      e = .returned (.tuple #[]) ∧ Step b w w' ∧ ∃ g, Row w' b n g ∧ SwapsIn lo hi f g := by
  go_enter Try.func35, Try.ntmps35
  go_wp2
  go_loopw [6, 7] (fun vi vj wr => ∃ (i j : Nat) (g : Nat → Int), vi = .int .i64 i ∧ vj = .int .i64 j ∧ lo ≤ i ∧ j < hi ∧ i ≤ hi ∧ Hid (Step b w wr ∧ Row wr b n g ∧ SwapsIn lo hi f g)) (fun vi vj _ => (intOf vj - intOf vi).toNat)
  case atStart => exact ⟨lo, hi - 1, f, rfl, by congr 1; omega, Nat.le_refl _, by omega, by omega, Step.refl _ _, hr, SwapsIn.refl _ _ _⟩
  case round =>
    obtain ⟨i, j, g, rfl, rfl, h1, h2, h3, HI⟩ := hrel
    by_cases hlt : i < j
    · have c1 := HI.out.2.1.cell (i := i) (by omega)
      have c2 := HI.out.2.1.cell (i := j) (by omega)
      have f1 := HI.out.2.1.frozen i
      have f2 := HI.out.2.1.frozen j
      go_wp2_with fail
      go_region
      all_goals go_wp2
      go_roundw
      case rel => exact ⟨i + 1, j - 1, Sw g i j, by go_num, by congr 1; omega, by omega, by omega, by omega, ((HI.out.1.drew).set _ _).set _ _, World.rowIs.of_block (HI.out.2.1.swap _ _ rfl rfl) rfl, HI.out.2.2.step (by omega) (by omega) (by omega) (by omega)⟩
      case measure => simp [intOf]; omega
    · go_wp2
      go_end0
      exact ⟨rfl, HI.out.1, g, HI.out.2.1, HI.out.2.2⟩

theorem kid_of {d r : Nat} (h0 : 0 < d) (h : (d - 1) / 2 = r) : d = 2 * r + 1 ∨ d = 2 * r + 1 + 1 := by omega

set_option maxHeartbeats 2000000 in
theorem sift_any (b n lo hi first : Nat) (f : Nat → Int) (w : World) (hn : n ≤ 65536) (hlo : lo < hi ∨ lo = 0) (hhi : first + hi ≤ n) (hr : Row w b n f) (hh : HeapOn (lo + 1) hi first f) :
    Calls Try.prog 44 #[.slice (some ⟨b, 0, none⟩) n n, .int .i64 lo, .int .i64 hi, .int .i64 first] w fun e w' =>
      e = .returned (.tuple #[]) ∧ Step b w w' ∧ ∃ g, Row w' b n g ∧ SwapsIn first (first + hi) f g ∧ HeapOn lo hi first g := by
  go_enter Try.func44, Try.ntmps44
  go_wp2
  go_loopw [8] (fun vr wr => ∃ (r : Nat) (g : Nat → Int), vr = .int .i64 r ∧ lo ≤ r ∧ r ≤ 65536 ∧ Hid (Step b w wr ∧ Row wr b n g ∧ SwapsIn first (first + hi) f g ∧ HeapEx lo hi first r g)) (fun vr _ => 65536 - (intOf vr).toNat)
  case atStart => exact ⟨lo, f, rfl, Nat.le_refl _, by omega, Step.refl _ _, hr, SwapsIn.refl _ _ _, heapEx_start hh⟩
  case round =>
    obtain ⟨r, g, rfl, h1, h2, HI⟩ := hrel
    clear hh hr
    by_cases hc1 : 2 * r + 1 < hi
    · by_cases hc2 : 2 * r + 1 + 1 < hi
      · have c1 := HI.out.2.1.cell (i := first + (2 * r + 1)) (by omega)
        have c2 := HI.out.2.1.cell (i := first + (2 * r + 1) + 1) (by omega)
        have i1 : 2 * (r : Int) + 1 + 1 < hi := by omega
        go_wp2_with fail
        go_quiet ((go_at_call 37; exact Calls.quiet_of_same (less_any _ _ _)))
        clear c1 c2
        go_wp2_with fail
        · have hl : lt (g (first + (2 * r + 1))) (g (first + (2 * r + 1) + 1)) = true := by assumption
          have HM : Hid (∀ d, 0 < d → d < hi → (d - 1) / 2 = r → g (first + d) ≤ g (first + (2 * r + 1 + 1))) := fun d k1 k2 k3 => by
                      rcases kid_of k1 k3 with rfl | rfl
                      · have := lt_yes hl; rw [show first + (2 * r + 1) + 1 = first + (2 * r + 1 + 1) by omega] at this; omega
                      · exact Int.le_refl _
          have HJ : Hid (Step b w (wr.drewN nq) ∧ Row (wr.drewN nq) b n g ∧ SwapsIn first (first + hi) f g ∧ HeapEx lo hi first r g) := ⟨HI.out.1.drewN _, HI.out.2.1.drewN _, HI.out.2.2⟩
          clear HI
          generalize wr.drewN nq = wr2 at HJ ⊢
          clear nq
          have c0 := HJ.out.2.1.cell (i := first + r) (by omega)
          have c2 := HJ.out.2.1.cell (i := first + (2 * r + 1 + 1)) (by omega)
          go_quiet ((go_at_call 37; exact Calls.quiet_of_same (less_any _ _ _)))
          clear c0 c2
          go_wp2_with fail
          · have hs : (!lt (g (first + r)) (g (first + (2 * r + 1 + 1)))) = true := by assumption
            (try simp only [Exit.inBlock, Exit.then])
            refine bodyPost_ret (results_none rfl _ _ _) rfl ?_
            exact ⟨rfl, HJ.out.1.drewN _, g, HJ.out.2.1.drewN _, HJ.out.2.2.1, heapEx_stop HJ.out.2.2.2 fun d k1 k2 k3 => Int.le_trans (HM.out d k1 k2 k3) (lt_no (by simpa using hs))⟩
          · have hs : (!lt (g (first + r)) (g (first + (2 * r + 1 + 1)))) = false := by assumption
            have HK : Hid (Step b w (wr2.drewN nq) ∧ Row (wr2.drewN nq) b n g ∧ SwapsIn first (first + hi) f g ∧ HeapEx lo hi first r g) := ⟨HJ.out.1.drewN _, HJ.out.2.1.drewN _, HJ.out.2.2⟩
            clear HJ
            generalize wr2.drewN nq = wr3 at HK ⊢
            clear nq
            have c0 := HK.out.2.1.cell (i := first + r) (by omega)
            have c2 := HK.out.2.1.cell (i := first + (2 * r + 1 + 1)) (by omega)
            have f0 := HK.out.2.1.frozen (first + r)
            have f2 := HK.out.2.1.frozen (first + (2 * r + 1 + 1))
            go_region
            all_goals go_wp2
            go_roundw
            case rel => exact ⟨2 * r + 1 + 1, Sw g (first + r) (first + (2 * r + 1 + 1)), by go_num, by omega, by omega, ((HK.out.1.drew).set _ _).set _ _, World.rowIs.of_block (HK.out.2.1.swap _ _ rfl rfl) rfl, HK.out.2.2.1.step (by omega) (by omega) (by omega) (by omega), heapEx_step HK.out.2.2.2 h1 (by omega) (by omega) HM.out (lt_yes (by simpa using hs))⟩
            case measure => simp [intOf]; omega
        · have hl : lt (g (first + (2 * r + 1))) (g (first + (2 * r + 1) + 1)) = false := by assumption
          have HM : Hid (∀ d, 0 < d → d < hi → (d - 1) / 2 = r → g (first + d) ≤ g (first + (2 * r + 1))) := fun d k1 k2 k3 => by
                      rcases kid_of k1 k3 with rfl | rfl
                      · exact Int.le_refl _
                      · have := lt_no hl; rw [show first + (2 * r + 1) + 1 = first + (2 * r + 1 + 1) by omega] at this; exact this
          have HJ : Hid (Step b w (wr.drewN nq) ∧ Row (wr.drewN nq) b n g ∧ SwapsIn first (first + hi) f g ∧ HeapEx lo hi first r g) := ⟨HI.out.1.drewN _, HI.out.2.1.drewN _, HI.out.2.2⟩
          clear HI
          generalize wr.drewN nq = wr2 at HJ ⊢
          clear nq
          have c0 := HJ.out.2.1.cell (i := first + r) (by omega)
          have c2 := HJ.out.2.1.cell (i := first + (2 * r + 1)) (by omega)
          go_quiet ((go_at_call 37; exact Calls.quiet_of_same (less_any _ _ _)))
          clear c0 c2
          go_wp2_with fail
          · have hs : (!lt (g (first + r)) (g (first + (2 * r + 1)))) = true := by assumption
            (try simp only [Exit.inBlock, Exit.then])
            refine bodyPost_ret (results_none rfl _ _ _) rfl ?_
            exact ⟨rfl, HJ.out.1.drewN _, g, HJ.out.2.1.drewN _, HJ.out.2.2.1, heapEx_stop HJ.out.2.2.2 fun d k1 k2 k3 => Int.le_trans (HM.out d k1 k2 k3) (lt_no (by simpa using hs))⟩
          · have hs : (!lt (g (first + r)) (g (first + (2 * r + 1)))) = false := by assumption
            have HK : Hid (Step b w (wr2.drewN nq) ∧ Row (wr2.drewN nq) b n g ∧ SwapsIn first (first + hi) f g ∧ HeapEx lo hi first r g) := ⟨HJ.out.1.drewN _, HJ.out.2.1.drewN _, HJ.out.2.2⟩
            clear HJ
            generalize wr2.drewN nq = wr3 at HK ⊢
            clear nq
            have c0 := HK.out.2.1.cell (i := first + r) (by omega)
            have c2 := HK.out.2.1.cell (i := first + (2 * r + 1)) (by omega)
            have f0 := HK.out.2.1.frozen (first + r)
            have f2 := HK.out.2.1.frozen (first + (2 * r + 1))
            go_region
            all_goals go_wp2
            go_roundw
            case rel => exact ⟨2 * r + 1, Sw g (first + r) (first + (2 * r + 1)), by go_num, by omega, by omega, ((HK.out.1.drew).set _ _).set _ _, World.rowIs.of_block (HK.out.2.1.swap _ _ rfl rfl) rfl, HK.out.2.2.1.step (by omega) (by omega) (by omega) (by omega), heapEx_step HK.out.2.2.2 h1 (by omega) (by omega) HM.out (lt_yes (by simpa using hs))⟩
            case measure => simp [intOf]; omega
      · have i1 : decide (2 * (r : Int) + 1 + 1 < hi) = false := by simp; omega
        go_wp2_with fail
        go_quiet ((go_at_call 37; exact Calls.quiet_of_same (less_any _ _ _)))
        go_wp2_with fail
        have HM : Hid (∀ d, 0 < d → d < hi → (d - 1) / 2 = r → g (first + d) ≤ g (first + (2 * r + 1))) := fun d k1 k2 k3 => by
                  rcases kid_of k1 k3 with rfl | rfl
                  · exact Int.le_refl _
                  · omega
        have HJ : Hid (Step b w (wr.drewN nq) ∧ Row (wr.drewN nq) b n g ∧ SwapsIn first (first + hi) f g ∧ HeapEx lo hi first r g) := ⟨HI.out.1.drewN _, HI.out.2.1.drewN _, HI.out.2.2⟩
        clear HI
        generalize wr.drewN nq = wr2 at HJ ⊢
        clear nq
        have c0 := HJ.out.2.1.cell (i := first + r) (by omega)
        have c2 := HJ.out.2.1.cell (i := first + (2 * r + 1)) (by omega)
        go_quiet ((go_at_call 37; exact Calls.quiet_of_same (less_any _ _ _)))
        clear c0 c2
        go_wp2_with fail
        · have hs : (!lt (g (first + r)) (g (first + (2 * r + 1)))) = true := by assumption
          (try simp only [Exit.inBlock, Exit.then])
          refine bodyPost_ret (results_none rfl _ _ _) rfl ?_
          exact ⟨rfl, HJ.out.1.drewN _, g, HJ.out.2.1.drewN _, HJ.out.2.2.1, heapEx_stop HJ.out.2.2.2 fun d k1 k2 k3 => Int.le_trans (HM.out d k1 k2 k3) (lt_no (by simpa using hs))⟩
        · have hs : (!lt (g (first + r)) (g (first + (2 * r + 1)))) = false := by assumption
          have HK : Hid (Step b w (wr2.drewN nq) ∧ Row (wr2.drewN nq) b n g ∧ SwapsIn first (first + hi) f g ∧ HeapEx lo hi first r g) := ⟨HJ.out.1.drewN _, HJ.out.2.1.drewN _, HJ.out.2.2⟩
          clear HJ
          generalize wr2.drewN nq = wr3 at HK ⊢
          clear nq
          have c0 := HK.out.2.1.cell (i := first + r) (by omega)
          have c2 := HK.out.2.1.cell (i := first + (2 * r + 1)) (by omega)
          have f0 := HK.out.2.1.frozen (first + r)
          have f2 := HK.out.2.1.frozen (first + (2 * r + 1))
          go_region
          all_goals go_wp2
          go_roundw
          case rel => exact ⟨2 * r + 1, Sw g (first + r) (first + (2 * r + 1)), by go_num, by omega, by omega, ((HK.out.1.drew).set _ _).set _ _, World.rowIs.of_block (HK.out.2.1.swap _ _ rfl rfl) rfl, HK.out.2.2.1.step (by omega) (by omega) (by omega) (by omega), heapEx_step HK.out.2.2.2 h1 (by omega) (by omega) HM.out (lt_yes (by simpa using hs))⟩
          case measure => simp [intOf]; omega
    · go_wp2_with fail
      go_end0
      exact ⟨rfl, HI.out.1, g, HI.out.2.1, HI.out.2.2.1, heapEx_stop HI.out.2.2.2 fun d k1 k2 k3 => by omega⟩

theorem sift0_any (b n hi first : Nat) (f : Nat → Int) (w : World) (hn : n ≤ 65536) (hhi : first + hi ≤ n) (hr : Row w b n f) (hh : HeapOn 1 hi first f) :
    Calls Try.prog 44 #[.slice (some ⟨b, 0, none⟩) n n, .int .i64 0, .int .i64 hi, .int .i64 first] w fun e w' =>
      e = .returned (.tuple #[]) ∧ Step b w w' ∧ ∃ g, Row w' b n g ∧ SwapsIn first (first + hi) f g ∧ HeapOn 0 hi first g := sift_any b n 0 hi first f w hn (Or.inr rfl) hhi hr hh
theorem sift_nil (b n first : Nat) (w : World) :
    Calls Try.prog 44 #[.slice (some ⟨b, 0, none⟩) n n, .int .i64 0, .int .i64 0, .int .i64 first] w fun e w' => e = .returned (.tuple #[]) ∧ w' = w := by
  go_enter Try.func44, Try.ntmps44
  go_wp2
  refine wp_loop_rounds 1 ?_
  rw [rounds_succ]
  go_wp2_with fail
  go_end0
  exact ⟨rfl, rfl⟩

set_option maxHeartbeats 2000000 in
theorem heap_any (b n lo hi : Nat) (f : Nat → Int) (w : World) (hn : n ≤ 65536) (hlo : lo < hi) (hhi : hi ≤ n) (hr : Row w b n f) :
    Calls Try.prog 32 #[.slice (some ⟨b, 0, none⟩) n n, .int .i64 lo, .int .i64 hi] w fun e w' =>
      e = .returned (.tuple #[]) ∧ Step b w w' ∧ ∃ g, Row w' b n g ∧ SwapsIn lo hi f g ∧ Sorted lo hi g := by
  obtain ⟨m, hm⟩ : ∃ m, hi = lo + m := ⟨hi - lo, by omega⟩
  have em : (hi : Int) - (lo : Int) = (m : Int) := by omega
  have hm1 : lo + m ≤ n := by omega
  have hm2 : 0 < m := by omega
  have HM : Hid (hi = lo + m) := hm
  clear hm hlo hhi
  go_enter Try.func32, Try.ntmps32
  go_wp2_with fail
  go_loopw [9] (fun vi wr => ∃ (i : Int) (g : Nat → Int), vi = .int .i64 i ∧ -1 ≤ i ∧ i ≤ 65536 ∧ Hid (i < m ∧ Step b w wr ∧ Row wr b n g ∧ SwapsIn lo (lo + m) f g ∧ HeapOn (i + 1).toNat m lo g)) (fun vi _ => (intOf vi + 1).toNat)
  case atStart =>
    refine ⟨((m : Int) - 1) / 2, f, rfl, by omega, by omega, by omega, Step.refl _ _, hr, SwapsIn.refl _ _ _, ?_⟩
    rw [show (((m : Int) - 1) / 2 + 1).toNat = (m - 1) / 2 + 1 by omega]
    exact heap_leaves f
  case round =>
    obtain ⟨i, g, rfl, hi0, hi1, HI⟩ := hrel
    clear hr
    by_cases h0 : 0 ≤ i
    · obtain ⟨k, rfl⟩ := Int.eq_ofNat_of_zero_le h0
      have H4 : Hid (HeapOn (k + 1) m lo g) := HI.out.2.2.2.2
      have H5 : Hid (k < m) := by have := HI.out.1; show k < m; omega
      go_wp2_with (go_at_call 44; refine (sift_any b n k m lo g _ hn (Or.inl H5.out) (by omega) HI.out.2.2.1 H4.out).mono ?_; rintro e w2 ⟨rfl, s1, g2, s2, s3, s4⟩)
      have HJ : Hid (Step b w w2 ∧ Row w2 b n g2 ∧ SwapsIn lo (lo + m) f g2 ∧ HeapOn k m lo g2) := ⟨HI.out.2.1.trans s1, s2, HI.out.2.2.2.1.trans s3, s4⟩
      have H6 := HI.out.1
      clear HI s1 s2 s3 s4 H4
      go_wp2_with fail
      go_roundw
      case rel => exact ⟨(k : Int) - 1, g2, rfl, by omega, by omega, by omega, HJ.out.1, HJ.out.2.1, HJ.out.2.2.1, by rw [show ((k : Int) - 1 + 1).toNat = k by omega]; exact HJ.out.2.2.2⟩
      case measure => simp [intOf]
    · have H0 : Hid (HeapOn 0 m lo g) := by
        have := HI.out.2.2.2.2
        rw [show (i + 1).toNat = 0 by omega] at this
        exact this
      go_wp2_with fail
      go_loopw [10] (fun vi wr => ∃ (j : Int) (g : Nat → Int), vi = .int .i64 j ∧ -1 ≤ j ∧ j < m ∧ Hid (Step b w wr ∧ Row wr b n g ∧ SwapsIn lo (lo + m) f g ∧ Popped lo m (j + 1).toNat g)) (fun vi _ => (intOf vi + 1).toNat)
      case atStart => exact ⟨(m : Int) - 1, g, rfl, by omega, by omega, HI.out.2.1, HI.out.2.2.1, HI.out.2.2.2.1, by rw [show ((m : Int) - 1 + 1).toNat = m by omega]; exact popped_start H0.out⟩
      case round =>
        obtain ⟨j, g3, rfl, hj0, hj1, HP⟩ := hrel
        clear HI H0
        by_cases hj : 0 ≤ j
        · obtain ⟨k, rfl⟩ := Int.eq_ofNat_of_zero_le hj
          have H4 : Hid (Popped lo m (k + 1) g3) := HP.out.2.2.2
          have H5 : Hid (k < m) := by show k < m; omega
          by_cases e0 : k = 0
          · subst e0
            have c0 := HP.out.2.1.cell (i := lo) (by omega)
            have f0 := HP.out.2.1.frozen lo
            go_wp2_with fail
            go_region
            all_goals go_wp2_with (go_at_call 44; refine (sift_nil b n lo _).mono ?_; rintro e w2 ⟨rfl, rfl⟩)
            go_roundw
            case rel =>
              have PS := popped_swap H4.out H5.out
              exact ⟨-1, Sw g3 lo (lo + 0), rfl, by omega, by omega, (((HP.out.1).set _ _).set _ _).drew, World.rowIs.of_block (HP.out.2.1.swap lo lo rfl rfl) rfl, HP.out.2.2.1.step (by omega) (by omega) (by omega) (by omega), popped_sift PS.2.1 PS.2.2 (SwapsIn.refl _ _ _) (fun c k1 k2 k3 => by omega)⟩
            case measure => simp [intOf]
          · have c0 := HP.out.2.1.cell (i := lo) (by omega)
            have c2 := HP.out.2.1.cell (i := lo + k) (by omega)
            have f0 := HP.out.2.1.frozen lo
            have f2 := HP.out.2.1.frozen (lo + k)
            go_wp2_with fail
            go_region
            have PS : Hid _ := popped_swap H4.out H5.out
            have P1 : Hid (Row (((wr.setCell ⟨b, lo, none⟩ (.int .i32 (g3 (lo + k)))).setCell ⟨b, lo + k, none⟩ (.int .i32 (g3 lo))).drew) b n (Sw g3 lo (lo + k))) := World.rowIs.of_block (HP.out.2.1.swap lo (lo + k) rfl rfl) rfl
            all_goals go_wp2_with (go_at_call 44; refine (sift0_any b n k lo (Sw g3 lo (lo + k)) _ hn (by omega) P1.out PS.out.1).mono ?_; rintro e w2 ⟨rfl, s1, g2, s2, s3, s4⟩)
            have HQ : Hid (Step b w w2 ∧ Row w2 b n g2 ∧ SwapsIn lo (lo + m) f g2 ∧ Popped lo m k g2) :=
              ⟨(((HP.out.1).set _ _).set _ _).drew.trans s1, s2, (HP.out.2.2.1.step (by omega) (by omega) (by omega) (by omega)).trans (s3.mono (Nat.le_refl _) (by omega)), popped_sift PS.out.2.1 PS.out.2.2 s3 s4⟩
            clear HP s1 s2 s3 s4 P1 PS H4
            go_wp2_with fail
            go_roundw
            case rel => exact ⟨(k : Int) - 1, g2, rfl, by omega, by omega, HQ.out.1, HQ.out.2.1, HQ.out.2.2.1, by rw [show ((k : Int) - 1 + 1).toNat = k by omega]; exact HQ.out.2.2.2⟩
            case measure => simp [intOf]
        · go_wp2_with fail
          go_end0
          rw [HM.out]
          exact ⟨rfl, HP.out.1, g3, HP.out.2.1, HP.out.2.2.1, popped_end (by have := HP.out.2.2.2; rw [show (j + 1).toNat = 0 by omega] at this; exact this)⟩
end Go.Proofs.Qxb6608693a.Srt

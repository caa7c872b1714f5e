import Derived.Test.Qxb6608693aIns
import Derived.Test.Qxb6608693aHeap
import Derived.Test.Qxb6608693aBreak
import Derived.Test.Qxb6608693aPart
import Derived.Test.Qxb6608693aPins
import Derived.Test.Qxb6608693aPdqPure
import Derived.Deep.Cut
import Derived.Deep.CutRange
namespace Go.Proofs.Qxb6608693a.Srt
open Go.RowKit Go.Deep
set_option linter.unusedVariables false

/-- what pdqsort's rounds carry: [a, c) is still to be sorted -/
structure QS (b n lo hi : Nat) (f : Nat → Int) (w : World) (a c : Nat) (wr : World) (g : Nat → Int) : Prop where
  step : Step b w wr
  row : Row wr b n g
  sw : SwapsIn lo hi f g
  out : Out lo hi a c g
theorem QS.next {b n lo hi : Nat} {f : Nat → Int} {w : World} {a c : Nat} {wr w2 : World} {g k : Nat → Int} (h : QS b n lo hi f w a c wr g) (ha : lo ≤ a) (hc : c ≤ hi) (s : Step b wr w2) (r : Row w2 b n k) (q : SwapsIn a c g k) : QS b n lo hi f w a c w2 k :=
  ⟨h.step.trans s, r, h.sw.trans (q.mono ha hc), h.out.swaps q ha hc⟩
theorem QS.draws {b n lo hi : Nat} {f : Nat → Int} {w : World} {a c : Nat} {wr : World} {g : Nat → Int} (h : QS b n lo hi f w a c wr g) (q : Nat) : QS b n lo hi f w a c (wr.drewN q) g := ⟨h.step.drewN q, h.row.drewN q, h.sw, h.out⟩
theorem QS.under {b n lo hi : Nat} {f : Nat → Int} {w : World} {a c : Nat} {wr : World} {g : Nat → Int} (h : QS b n lo hi f w a c wr g) (hu : Under lo hi f) (ha : lo ≤ a) (hc : c ≤ hi) : Under a c g := by
  by_cases e : lo = a
  · subst e
    rcases h.sw.under hu with u | u
    · exact Or.inl u
    · exact Or.inr fun x h1 h2 => u x h1 (by omega)
  · exact Or.inr fun x h1 h2 => h.out (a - 1) x (by omega) (by omega) (by omega) (Or.inl (by omega))

/-- pdqsort's contract at ranges of at most N -/
def PdqAt (N : Nat) : Prop := ∀ (b n lo hi lim : Nat) (f : Nat → Int) (w : World), hi - lo ≤ N → n ≤ 65536 → lo ≤ hi → hi ≤ n → lim ≤ 64 → Row w b n f → Distinct n f → Under lo hi f →
  Calls Try.prog 26 #[.slice (some ⟨b, 0, none⟩) n n, .int .i64 lo, .int .i64 hi, .int .i64 lim] w fun e w' =>
    e = .returned (.tuple #[]) ∧ Step b w w' ∧ ∃ g, Row w' b n g ∧ SwapsIn lo hi f g ∧ Sorted lo hi g

set_option maxHeartbeats 4000000 in
set_option maxRecDepth 100000 in
theorem pdq_step (N : Nat) (ih : Hid (∀ M, M < N → PdqAt M)) : PdqAt N := by
  intro b n lo hi lim f w hN hn hlo hhi hlim hr hd hu
  have HD : Hid (∀ g, SwapsIn lo hi f g → Distinct n g) := fun g s => s.distinct hhi hd
  have HU : Hid (Under lo hi f) := hu
  have HS : Hid (QS b n lo hi f w lo hi w f) := ⟨Step.refl _ _, hr, SwapsIn.refl _ _ _, out_start f⟩
  clear hr hd hu
  go_enter Try.func26, Try.ntmps26
  go_wp2_with fail
  go_loopg [1, 2, 3, 8, 9] N (fun k s1 s2 s3 s8 s9 wr => ∃ (a c l : Nat) (wb wp : Bool) (g : Nat → Int), s1 = .int .i64 a ∧ s2 = .int .i64 c ∧ s3 = .int .i64 l ∧ s8 = .bool wb ∧ s9 = .bool wp ∧ lo ≤ a ∧ a ≤ c ∧ c ≤ hi ∧ l ≤ 64 ∧ c - a ≤ k ∧ k ≤ N ∧ Hid (QS b n lo hi f w a c wr g))
  case atStart => exact ⟨lo, hi, lim, true, true, f, rfl, rfl, rfl, rfl, rfl, Nat.le_refl _, hlo, Nat.le_refl _, hlim, hN, Nat.le_refl _, HS⟩
  case round =>
    obtain ⟨a, c, l, wb, wp, g, rfl, rfl, rfl, rfl, rfl, ha, hac, hc, hl, hk, hkN, H0⟩ := hrel
    clear HS hlim
    have hH := H0.out
    by_cases h12 : (c : Int) - (a : Int) ≤ 12
    · go_wp2_with (go_at_call 31; refine (ins_any b n a c g _ hn hac (by omega) H0.out.row).mono ?_; rintro e w2 ⟨rfl, s1, g2, s2, s3, s4⟩)
      (try simp only [Exit.inBlock, Exit.then])
      refine bodyPost_ret (results_none rfl _ _ _) rfl ?_
      have hq := H0.out.next ha hc s1 s2 s3
      exact ⟨rfl, hq.step, _, hq.row, hq.sw, out_done hq.out s4⟩
    · have hlen : a + 13 ≤ c := by omega
      by_cases hl0 : l = 0
      · subst hl0
        go_wp2_with (go_at_call 32; refine (heap_any b n a c g _ hn (by omega) (by omega) H0.out.row).mono ?_; rintro e w2 ⟨rfl, s1, g2, s2, s3, s4⟩)
        (try simp only [Exit.inBlock, Exit.then])
        refine bodyPost_ret (results_none rfl _ _ _) rfl ?_
        have hq := H0.out.next ha hc s1 s2 s3
        exact ⟨rfl, hq.step, _, hq.row, hq.sw, out_done hq.out s4⟩
      · have t0 : ((l : Int) == 0) = false := by simp; omega
        clear hH
        go_upto_if 35 with fail
        go_cut [3] from 19 to 133 (fun s3 wc => ∃ (l1 : Nat) (g1 : Nat → Int), s3 = .int .i64 l1 ∧ l1 ≤ 64 ∧ Hid (QS b n lo hi f w a c wc g1))
        case first =>
          cases wb with
          | true =>
            go_wp2_with fail
            go_meet
            case rel => exact ⟨l, g, rfl, hl, H0⟩
          | false =>
            go_wp2_with (go_at_call 33; refine (break_any b n a (c - a) c g _ hn (by omega) (by omega) (by omega) H0.out.row).mono ?_; rintro e w2 ⟨rfl, s1, g2, s2, s3⟩)
            go_meet
            case rel => exact ⟨l - 1, g2, by congr 1; omega, by omega, H0.out.next ha hc s1 s2 s3⟩
        case rest =>
          obtain ⟨l1, g1, rfl, hl1, H1⟩ := hcut
          clear H0 t0 hl0 hl
          go_wp2_with fail
          refine (choose_any b n a (c - a) c g1 _ hn (by omega) (by omega) (by omega) H1.out.row).mono ?_
          rintro e w2 ⟨⟨p0, t0, rfl, hp01, hp02⟩, s1, s2⟩
          have H2 : Hid (QS b n lo hi f w a c w2 g1) := H1.out.next ha hc s1 s2 (SwapsIn.refl _ _ _)
          clear H1 s1 s2
          go_upto_if 50 with fail
          go_cut [11, 12] from 19 to 133 (fun s11 s12 wc => ∃ (p : Nat) (t : Int) (g2 : Nat → Int), s11 = .int .i64 p ∧ s12 = .int .i64 t ∧ a ≤ p ∧ p < c ∧ Hid (QS b n lo hi f w a c wc g2))
          case first =>
            go_wp2_with (go_at_call 35; refine (rev_any b n a c g1 _ hn (by omega) (by omega) H2.out.row).mono ?_; rintro e w3 ⟨rfl, s1, g3, s2, s3⟩)
            · go_meet
              case rel => exact ⟨(c - 1) - (p0 - a), 1, g3, by congr 1; omega, rfl, by omega, by omega, H2.out.next ha hc s1 s2 s3⟩
            · go_meet
              case rel => exact ⟨p0, t0, g1, rfl, rfl, hp01, hp02, H2⟩
          case rest =>
            obtain ⟨p, t, g2, rfl, rfl, hp1, hp2, H3⟩ := hcut
            clear H2 hp01 hp02
            go_upto_region 15 with fail
            go_cut [68] from 19 to 133 (fun s68 wc => ∃ q : Bool, s68 = .bool q ∧ Hid (QS b n lo hi f w a c wc g2))
            case first =>
              cases wb <;> cases wp
              all_goals
                go_wp2_with fail
                go_meet
                case rel => exact ⟨_, rfl, H3⟩
            case rest =>
              obtain ⟨q, rfl, H4⟩ := hcut
              clear H3
              go_upto_if 68 with fail
              go_cut [] from 19 to 133 (fun wc => ∃ g3, Hid (QS b n lo hi f w a c wc g3))
              case first =>
                cases q with
                | false =>
                  go_wp2_with fail
                  go_meet
                  case rel => exact ⟨g2, H4⟩
                | true =>
                  go_wp2_with (go_at_call 36; refine (pins_any b n a c g2 _ hn (by omega) (by omega) H4.out.row (H4.out.under HU.out ha hc)).mono ?_; rintro e w4 ⟨tt, rfl, s1, g4, s2, s3, s4⟩)
                  · have ht : tt = true := by assumption
                    (try simp only [Exit.inBlock, Exit.then])
                    refine bodyPost_ret (results_none rfl _ _ _) rfl ?_
                    have hq := H4.out.next ha hc s1 s2 s3
                    exact ⟨rfl, hq.step, _, hq.row, hq.sw, out_done hq.out (s4 ht)⟩
                  · go_meet
                    case rel => exact ⟨g4, H4.out.next ha hc s1 s2 s3⟩
              case rest =>
                obtain ⟨g3, H5⟩ := hcut
                clear H4
                go_upto_region 17 with fail
                go_cut [87] from 19 to 133 (fun s87 wc => s87 = .bool false ∧ Hid (QS b n lo hi f w a c wc g3))
                case first =>
                  by_cases ha0 : a = 0
                  · have tst : decide (0 < a) = false := by simp; omega
                    go_quiet ((go_at_call 37; exact Calls.quiet_of_same (less_any _ _ _)))
                    go_wp2_with fail
                    go_meet
                    case rel => exact ⟨rfl, H5.out.draws _⟩
                  · have hlt : lt (g3 (a - 1)) (g3 p) = true := by
                      have h1 := (HD.out g3 H5.out.sw) (a - 1) p (by omega) (by omega)
                      rcases H5.out.under HU.out ha hc with h2 | h2
                      · omega
                      · have := h2 p hp1 hp2
                        simp [lt]; omega
                    have tst : 0 < a := by omega
                    have c1 := H5.out.row.cell (i := a - 1) (by omega)
                    have c2 := H5.out.row.cell (i := p) (by omega)
                    go_quiet ((go_at_call 37; exact Calls.quiet_of_same (less_any _ _ _)))
                    clear c1 c2
                    go_wp2_with fail
                    go_meet
                    case rel => exact ⟨rfl, H5.out.draws _⟩
                case rest =>
                  obtain ⟨rfl, H6⟩ := hcut
                  clear H5
                  go_wp2_with fail
                  refine (part_core b n a c p g3 _ hn hp1 hp2 (by omega) H6.out.row).mono ?_
                  rintro e w5 ⟨m, al, ⟨rfl, hm1, hm2⟩, s1, g5, s2, s3, s4⟩
                  have H7 : Hid (QS b n lo hi f w a c w5 g5) := H6.out.next ha hc s1 s2 s3
                  have HP : Hid (Parted a m c g5) := s4
                  clear H6 s1 s2 s3 s4
                  have HU7 : Hid (Under a c g5) := H7.out.under HU.out ha hc
                  have HD7 : Hid (Distinct n g5) := HD.out g5 H7.out.sw
                  go_wp2_with fail
                  · refine (ih.out (m - a) (by omega) b n a m l1 g5 _ (Nat.le_refl _) hn hm1 (by omega) hl1 H7.out.row HD7.out ?_).mono ?_
                    · rcases HU7.out with h | h
                      · exact Or.inl h
                      · exact Or.inr fun x h1 h2 => h x h1 (by omega)
                    · rintro e w6 ⟨rfl, s1, g6, s2, s3, s4⟩
                      have H8 : Hid (QS b n lo hi f w (m + 1) c w6 g6) := ⟨H7.out.step.trans s1, s2, H7.out.sw.trans (s3.mono ha (by omega)), out_left H7.out.out HP.out s3 s4 ha hc hm1 hm2⟩
                      clear H7 HP HU7 HD7 s1 s2 s3 s4
                      go_wp2_with fail
                      go_roundg (c - (m + 1))
                      case measure => omega
                      case rel => exact ⟨m + 1, c, l1, _, _, g6, by go_num, rfl, rfl, rfl, rfl, by omega, by omega, hc, hl1, Nat.le_refl _, by omega, H8⟩
                  · rw [show ((m : Int) + 1) = ((m + 1 : Nat) : Int) by omega]
                    refine (ih.out (c - (m + 1)) (by omega) b n (m + 1) c l1 g5 _ (Nat.le_refl _) hn (by omega) (by omega) hl1 H7.out.row HD7.out ?_).mono ?_
                    · exact Or.inr fun x h1 h2 => HP.out.2 x (by omega) h2
                    · rintro e w6 ⟨rfl, s1, g6, s2, s3, s4⟩
                      have H8 : Hid (QS b n lo hi f w a m w6 g6) := ⟨H7.out.step.trans s1, s2, H7.out.sw.trans (s3.mono (by omega) hc), out_right H7.out.out HP.out s3 s4 ha hc hm1 hm2⟩
                      clear H7 HP HU7 HD7 s1 s2 s3 s4
                      go_wp2_with fail
                      go_roundg (m - a)
                      case measure => omega
                      case rel => exact ⟨a, m, l1, _, _, g6, rfl, rfl, rfl, rfl, rfl, ha, hm1, by omega, hl1, Nat.le_refl _, by omega, H8⟩

theorem pdq_all (N : Nat) : PdqAt N := by
  induction N using Nat.strongRecOn with
  | _ N ih => exact pdq_step N ih
end Go.Proofs.Qxb6608693a.Srt

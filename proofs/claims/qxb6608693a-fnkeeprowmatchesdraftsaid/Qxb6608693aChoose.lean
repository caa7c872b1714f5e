import Derived.Test.Qxb6608693aPivot
namespace Go.Proofs.Qxb6608693a.Srt
open Go.RowKit Go.Deep
set_option linter.unusedVariables false

theorem Step.onNew {b sb : Nat} {w w1 w2 : World} (h : Step b w w1) (k : Step sb w1 w2) (hs : w.heap.size ≤ sb) : Step b w w2 :=
  ⟨k.os.trans h.os, k.tape.trans h.tape, k.output.trans h.output, Nat.le_trans h.size k.size, fun i h1 h2 => (k.block i (Nat.lt_of_lt_of_le h1 h.size) (by omega)).trans (h.block i h1 h2)⟩
theorem ctr_new (w : World) : Ctr (w.alloc (.cells #[.int .i64 0] 3)) w.heap.size 0 := ⟨0, by omega, by omega, by simp [go_sem], by simp [go_sem]⟩

set_option maxHeartbeats 1000000 in
theorem choose_any (b n lo l hi : Nat) (f : Nat → Int) (w : World) (hn : n ≤ 65536) (hl : 8 ≤ l) (hhi : hi = lo + l) (hh : hi ≤ n) (hr : Row w b n f) :
    Calls Try.prog 34 #[.slice (some ⟨b, 0, none⟩) n n, .int .i64 lo, .int .i64 hi] w fun e w' =>
      (∃ (m : Nat) (t : Int), e = .returned (.tuple #[.int .i64 m, .int .i64 t]) ∧ (lo ≤ m ∧ m < hi)) ∧ Step b w w' ∧ Row w' b n f := by
  have em : (hi : Int) - (lo : Int) = (l : Int) := by omega
  have HE : Hid (hi = lo + l) := hhi
  clear hhi
  have hb := hr.lt
  have hl1 : (8 : Int) ≤ l := by omega
  have HR : Hid (Row w b n f) := hr
  clear hr
  by_cases h50 : 50 ≤ l
  · have hl2 : (50 : Int) ≤ l := by omega
    have HE1 : lo + l ≤ hi := by rw [HE.out]; exact Nat.le_refl _
    have HR0 : Hid (Row (w.alloc (.cells #[.int .i64 0] 3)) b n f) := HR.out.alloc _
    have HS0 : Hid (Step b w (w.alloc (.cells #[.int .i64 0] 3))) := (Step.refl _ _).alloc _
    go_enter Try.func34, Try.ntmps34
    go_wp2_with fail
    rw [show ((lo : Int) + (l : Int) / 4) = ((lo + l / 4 : Nat) : Int) by omega]
    refine (adj_any b n lo hi (lo + l / 4) w.heap.size 0 f _ hn hh (by omega) (by omega) HR0.out (by omega) (ctr_new w)).mono ?_
    rintro e w1 ⟨⟨m1, rfl, hm1⟩, s1, k1⟩
    have HR1 : Hid (Row w1 b n f) := HR0.out.aside s1 (by omega)
    have HS1 : Hid (Step b w w1) := HS0.out.onNew s1 (Nat.le_refl _)
    have HC1 : Hid (Ctr w1 w.heap.size (0 + 3)) := k1
    clear s1 k1
    go_wp2_with fail
    rw [show ((lo : Int) + (l : Int) / 4 * 2) = ((lo + l / 4 * 2 : Nat) : Int) by omega]
    refine (adj_any b n lo hi (lo + l / 4 * 2) w.heap.size 3 f _ hn hh (by omega) (by omega) HR1.out (by omega) HC1.out).mono ?_
    rintro e w2 ⟨⟨m2, rfl, hm2⟩, s1, k1⟩
    have HR2 : Hid (Row w2 b n f) := HR1.out.aside s1 (by omega)
    have HS2 : Hid (Step b w w2) := HS1.out.onNew s1 (Nat.le_refl _)
    have HC2 : Hid (Ctr w2 w.heap.size 6) := k1
    clear s1 k1
    go_wp2_with fail
    rw [show ((lo : Int) + (l : Int) / 4 * 3) = ((lo + l / 4 * 3 : Nat) : Int) by omega]
    refine (adj_any b n lo hi (lo + l / 4 * 3) w.heap.size 6 f _ hn hh (by omega) (by omega) HR2.out (by omega) HC2.out).mono ?_
    rintro e w3 ⟨⟨m3, rfl, hm3⟩, s1, k1⟩
    have HR3 : Hid (Row w3 b n f) := HR2.out.aside s1 (by omega)
    have HS3 : Hid (Step b w w3) := HS2.out.onNew s1 (Nat.le_refl _)
    have HC3 : Hid (Ctr w3 w.heap.size (6 + 3)) := k1
    clear s1 k1
    go_wp2_with fail
    refine (median_any b n lo hi m1 m2 m3 w.heap.size 9 f _ hn hh (by omega) (by omega) (by omega) (by omega) HR3.out (by omega) HC3.out).mono ?_
    rintro e w9 ⟨⟨mm, rfl, hm⟩, s1, k1⟩
    have HR9 : Hid (Row w9 b n f) := HR3.out.aside s1 (by omega)
    have HS9 : Hid (Step b w w9) := HS3.out.onNew s1 (Nat.le_refl _)
    obtain ⟨v, v0, v1, vc, vf⟩ := k1
    clear s1
    go_wp2_with fail
    all_goals
      go_ret2
      exact ⟨⟨mm, _, rfl, hm⟩, HS9.out, HR9.out⟩
  · have hl2 : ¬ (50 : Int) ≤ l := by omega
    have HE1 : lo + l ≤ hi := by rw [HE.out]; exact Nat.le_refl _
    have HR0 : Hid (Row (w.alloc (.cells #[.int .i64 0] 3)) b n f) := HR.out.alloc _
    have HS0 : Hid (Step b w (w.alloc (.cells #[.int .i64 0] 3))) := (Step.refl _ _).alloc _
    go_enter Try.func34, Try.ntmps34
    go_wp2_with fail
    rw [show ((lo : Int) + (l : Int) / 4) = ((lo + l / 4 : Nat) : Int) by omega, show ((lo : Int) + (l : Int) / 4 * 2) = ((lo + l / 4 * 2 : Nat) : Int) by omega, show ((lo : Int) + (l : Int) / 4 * 3) = ((lo + l / 4 * 3 : Nat) : Int) by omega]
    refine (median_any b n lo hi (lo + l / 4) (lo + l / 4 * 2) (lo + l / 4 * 3) w.heap.size 0 f _ hn hh (by omega) (by omega) (by omega) (by omega) HR0.out (by omega) (ctr_new w)).mono ?_
    rintro e w9 ⟨⟨mm, rfl, hm⟩, s1, k1⟩
    have HR9 : Hid (Row w9 b n f) := HR0.out.aside s1 (by omega)
    have HS9 : Hid (Step b w w9) := HS0.out.onNew s1 (Nat.le_refl _)
    obtain ⟨v, v0, v1, vc, vf⟩ := k1
    clear s1
    go_wp2_with fail
    all_goals
      go_ret2
      exact ⟨⟨mm, _, rfl, hm⟩, HS9.out, HR9.out⟩
end Go.Proofs.Qxb6608693a.Srt

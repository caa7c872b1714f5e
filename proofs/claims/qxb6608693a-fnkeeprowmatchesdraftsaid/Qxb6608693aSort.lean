import Derived.Test.Qxb6608693aPdq
namespace Go.Proofs.Qxb6608693a.Srt
open Go.RowKit Go.Deep
set_option linter.unusedVariables false

theorem pdq0_any (b n lim : Nat) (f : Nat → Int) (w : World) (hn : n ≤ 65536) (hl : lim ≤ 64) (hr : Row w b n f) (hd : Distinct n f) :
    Calls Try.prog 26 #[.slice (some ⟨b, 0, none⟩) n n, .int .i64 0, .int .i64 n, .int .i64 lim] w fun e w' =>
      e = .returned (.tuple #[]) ∧ Step b w w' ∧ ∃ g, Row w' b n g ∧ SwapsIn 0 n f g ∧ Sorted 0 n g :=
  pdq_all n b n 0 n lim f w (by omega) hn (Nat.zero_le _) (Nat.le_refl _) hl hr hd (Or.inl rfl)

set_option maxHeartbeats 1000000 in
theorem sort_any (b n : Nat) (f : Nat → Int) (w : World) (hn : n ≤ 65536) (hr : Row w b n f) (hd : Distinct n f) :
    Calls Try.prog 22 #[.slice (some ⟨b, 0, none⟩) n n] w fun e w' =>
      e = .returned (.tuple #[]) ∧ Step b w w' ∧ ∃ g, Row w' b n g ∧ SwapsIn 0 n f g ∧ Sorted 0 n g := by
  have hL := len_le hn
  have h := fun w => len_any n w hn
  have HR : Hid (Row w b n f) := hr
  have HD : Hid (Distinct n f) := hd
  clear hr hd
  generalize Lib.bitLen n = k at hL h
  have H : Hid _ := h
  clear h
  go_enter Try.func22, Try.ntmps22
  go_wp2_with fail
  refine (H.out _).mono ?_
  rintro e w1 ⟨rfl, rfl⟩
  go_wp2_with fail
  refine (pdq0_any b n k f _ hn (by omega) HR.out HD.out).mono ?_
  rintro e w2 ⟨rfl, hw⟩
  have HW : Hid _ := hw
  clear hw
  go_wp2_with fail
  go_end0
  exact ⟨rfl, HW.out⟩

set_option maxHeartbeats 1000000 in
theorem ins_nil (x : Option Addr) (c : Nat) (w : World) : Calls Try.prog 31 #[.slice x 0 c, .int .i64 0, .int .i64 0] w fun e w' => e = .returned (.tuple #[]) ∧ w' = w := by
  go_enter Try.func31, Try.ntmps31
  go_wp2
  refine wp_loop_rounds 1 ?_
  rw [rounds_succ]
  go_wp2_with fail
  go_end0
  exact ⟨rfl, rfl⟩
set_option maxHeartbeats 1000000 in
theorem pdq_nil (x : Option Addr) (c : Nat) (k : Int) (w : World) : Calls Try.prog 26 #[.slice x 0 c, .int .i64 0, .int .i64 0, .int .i64 k] w fun e w' => e = .returned (.tuple #[]) ∧ w' = w := by
  go_enter Try.func26, Try.ntmps26
  go_wp2
  refine wp_loop_rounds 1 ?_
  rw [rounds_succ]
  go_wp2_with (go_at_call 31; refine (ins_nil _ _ _).mono ?_; rintro e w' ⟨rfl, rfl⟩)
  (try simp only [Exit.inBlock, Exit.then])
  refine bodyPost_ret (results_none rfl _ _ _) rfl ?_
  exact ⟨rfl, rfl⟩
theorem len0_any (w : World) : Calls Try.prog 27 #[.int .u64 0] w fun e w' => e = .returned (.int .i64 (Lib.bitLen 0 : Nat)) ∧ w' = w := len_any 0 w (by omega)
set_option maxHeartbeats 1000000 in
/-- slices.Sort of a slice of no element, nil too -/
theorem sort_nil (x : Option Addr) (c : Nat) (w : World) : Calls Try.prog 22 #[.slice x 0 c] w fun e w' => e = .returned (.tuple #[]) ∧ w' = w := by
  go_enter Try.func22, Try.ntmps22
  go_wp2_with fail
  refine (len0_any _).mono ?_
  rintro e w1 ⟨rfl, rfl⟩
  go_wp2_with fail
  refine (pdq_nil x c _ _).mono ?_
  rintro e w2 ⟨rfl, rfl⟩
  go_wp2_with fail
  go_end0
  exact ⟨rfl, rfl⟩
end Go.Proofs.Qxb6608693a.Srt

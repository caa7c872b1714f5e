import Derived.Test.Qxb6608693aAdd
namespace Go.Proofs.Qxb6608693a
open Go.RowKit Go.Deep Srt
set_option linter.unusedVariables false

set_option maxRecDepth 100000 in
theorem count_any (lo G : Nat) (v0 v1 v2 : Value) (w : World) (h : OneRow lo w G v0 v1 v2) :
    Calls Try.prog 11 #[.pointer (some ⟨G, 0, none⟩)] w fun e w' => e = .returned (.int .i64 1) ∧ w' = w := by
  obtain ⟨RB, RR, cap, _, _, h1, h2, h3, _, _, _⟩ := h
  go_enter Try.func11, Try.ntmps11
  go_wp2_with (go_at_call 19; refine (made_some G 13 RB _ _ h1 h2 h3).mono ?_; rintro e w' ⟨rfl, rfl⟩)
  go_ret
  exact ⟨rfl, rfl⟩
set_option maxRecDepth 100000 in
theorem rowV_any (lo G : Nat) (v0 v1 v2 : Value) (w : World) (h : OneRow lo w G v0 v1 v2) :
    Calls Try.prog 12 #[.pointer (some ⟨G, 0, none⟩), .int .i64 0] w fun e w' => e = .returned v0 ∧ w' = w := by
  obtain ⟨RB, RR, cap, _, _, h1, h2, h3, h4, _, _⟩ := h
  go_enter Try.func12, Try.ntmps12
  go_wp2_with (go_at_call 19; refine (made_some G 13 RB _ _ h1 h2 h3).mono ?_; rintro e w' ⟨rfl, rfl⟩)
  go_ret
  exact ⟨rfl, rfl⟩
set_option maxRecDepth 100000 in
theorem rowL_any (lo G : Nat) (v0 v1 v2 : Value) (w : World) (h : OneRow lo w G v0 v1 v2) :
    Calls Try.prog 13 #[.pointer (some ⟨G, 0, none⟩), .int .i64 0] w fun e w' => e = .returned v1 ∧ w' = w := by
  obtain ⟨RB, RR, cap, _, _, h1, h2, h3, _, h4, _⟩ := h
  go_enter Try.func13, Try.ntmps13
  go_wp2_with (go_at_call 19; refine (made_some G 13 RB _ _ h1 h2 h3).mono ?_; rintro e w' ⟨rfl, rfl⟩)
  go_ret
  exact ⟨rfl, rfl⟩
set_option maxRecDepth 100000 in
theorem rowF_any (lo G : Nat) (v0 v1 v2 : Value) (w : World) (h : OneRow lo w G v0 v1 v2) :
    Calls Try.prog 14 #[.pointer (some ⟨G, 0, none⟩), .int .i64 0] w fun e w' => e = .returned v2 ∧ w' = w := by
  obtain ⟨RB, RR, cap, _, _, h1, h2, h3, _, _, h4⟩ := h
  go_enter Try.func14, Try.ntmps14
  go_wp2_with (go_at_call 19; refine (made_some G 13 RB _ _ h1 h2 h3).mono ?_; rintro e w' ⟨rfl, rfl⟩)
  go_ret
  exact ⟨rfl, rfl⟩
end Go.Proofs.Qxb6608693a

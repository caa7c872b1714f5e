import Derived.Test.Qxb6608693aBase
namespace Go.Proofs.Qxb6608693a.Srt
open Go.RowKit Go.Deep
set_option linter.unusedVariables false

/-- block sb counts: its number is from 0 to S -/
def Ctr (w : World) (sb : Nat) (S : Int) : Prop := ∃ v : Int, 0 ≤ v ∧ v ≤ S ∧ w.cell? ⟨sb, 0, none⟩ = some (.int .i64 v) ∧ w.frozen? ⟨sb, 0, none⟩ = false
theorem Row.aside {w w' : World} {b sb n : Nat} {f : Nat → Int} (h : Row w b n f) (s : Step sb w w') (hne : b ≠ sb) : Row w' b n f := World.rowIs.of_block h (s.block b h.lt hne)

set_option maxHeartbeats 1000000 in
theorem order2_any (b n lo hi x y sb : Nat) (S : Int) (f : Nat → Int) (w : World) (hn : n ≤ 65536) (hhi : hi ≤ n) (hx : lo ≤ x ∧ x < hi) (hy : lo ≤ y ∧ y < hi) (hS : S ≤ 1000) (hr : Row w b n f) (hne : b ≠ sb) (hc : Ctr w sb S) :
    Calls Try.prog 50 #[.slice (some ⟨b, 0, none⟩) n n, .int .i64 x, .int .i64 y, .pointer (some ⟨sb, 0, none⟩)] w fun e w' =>
      (∃ x' y' : Nat, e = .returned (.tuple #[.int .i64 x', .int .i64 y']) ∧ (lo ≤ x' ∧ x' < hi) ∧ (lo ≤ y' ∧ y' < hi)) ∧ Step sb w w' ∧ Ctr w' sb (S + 1) := by
  obtain ⟨v, v0, v1, vc, vf⟩ := hc
  have c1 := hr.cell (i := x) (by omega)
  have c2 := hr.cell (i := y) (by omega)
  clear hr
  go_enter Try.func50, Try.ntmps50
  go_wp2_with fail
  go_quiet ((go_at_call 37; exact Calls.quiet_of_same (less_any _ _ _)))
  clear c1 c2
  go_wp2_with fail
  · go_ret2
    exact ⟨⟨y, x, rfl, hy, hx⟩, ((Step.refl _ _).drewN _).set _ _, v + 1, by omega, by omega, by simp [go_sem, vc], by simp [go_sem, vf]⟩
  · go_ret2
    exact ⟨⟨x, y, rfl, hx, hy⟩, (Step.refl _ _).drewN _, v, v0, by omega, vc, vf⟩

set_option maxHeartbeats 1000000 in
theorem median_any (b n lo hi x y z sb : Nat) (S : Int) (f : Nat → Int) (w : World) (hn : n ≤ 65536) (hhi : hi ≤ n) (hx : lo ≤ x ∧ x < hi) (hy : lo ≤ y ∧ y < hi) (hz : lo ≤ z ∧ z < hi) (hS : S ≤ 900) (hr : Row w b n f) (hne : b ≠ sb) (hc : Ctr w sb S) :
    Calls Try.prog 48 #[.slice (some ⟨b, 0, none⟩) n n, .int .i64 x, .int .i64 y, .int .i64 z, .pointer (some ⟨sb, 0, none⟩)] w fun e w' =>
      (∃ m : Nat, e = .returned (.int .i64 m) ∧ (lo ≤ m ∧ m < hi)) ∧ Step sb w w' ∧ Ctr w' sb (S + 3) := by
  have HR : Hid (Row w b n f) := hr
  have HC : Hid (Ctr w sb S) := hc
  clear hr hc
  go_enter Try.func48, Try.ntmps48
  go_wp2_with fail
  refine (order2_any b n lo hi x y sb S f _ hn hhi hx hy (by omega) HR.out hne HC.out).mono ?_
  rintro e w1 ⟨⟨x1, y1, rfl, hx1, hy1⟩, s1, k1⟩
  have HR1 : Hid (Row w1 b n f) := HR.out.aside s1 hne
  have HS1 : Hid (Step sb w w1) := s1
  have HC1 : Hid (Ctr w1 sb (S + 1)) := k1
  clear HR HC s1 k1
  go_wp2_with fail
  refine (order2_any b n lo hi y1 z sb (S + 1) f _ hn hhi hy1 hz (by omega) HR1.out hne HC1.out).mono ?_
  rintro e w2 ⟨⟨x2, y2, rfl, hx2, hy2⟩, s1, k1⟩
  have HR2 : Hid (Row w2 b n f) := HR1.out.aside s1 hne
  have HS2 : Hid (Step sb w w2) := HS1.out.trans s1
  have HC2 : Hid (Ctr w2 sb (S + 1 + 1)) := k1
  clear HR1 HC1 HS1 s1 k1
  go_wp2_with fail
  refine (order2_any b n lo hi x1 x2 sb (S + 1 + 1) f _ hn hhi hx1 hx2 (by omega) HR2.out hne HC2.out).mono ?_
  rintro e w3 ⟨⟨x3, y3, rfl, hx3, hy3⟩, s1, k1⟩
  have HS3 : Hid (Step sb w w3) := HS2.out.trans s1
  have HC3 : Hid (Ctr w3 sb (S + 3)) := by
    obtain ⟨v, v0, v1, vc, vf⟩ := k1
    exact ⟨v, v0, by omega, vc, vf⟩
  clear HR2 HC2 HS2 s1 k1
  go_wp2_with fail
  go_ret
  exact ⟨⟨y3, rfl, hy3⟩, HS3.out, HC3.out⟩

set_option maxHeartbeats 1000000 in
theorem adj_any (b n lo hi x sb : Nat) (S : Int) (f : Nat → Int) (w : World) (hn : n ≤ 65536) (hhi : hi ≤ n) (hx : lo + 1 ≤ x ∧ x + 1 < hi) (hS : S ≤ 900) (hr : Row w b n f) (hne : b ≠ sb) (hc : Ctr w sb S) :
    Calls Try.prog 47 #[.slice (some ⟨b, 0, none⟩) n n, .int .i64 x, .pointer (some ⟨sb, 0, none⟩)] w fun e w' =>
      (∃ m : Nat, e = .returned (.int .i64 m) ∧ (lo ≤ m ∧ m < hi)) ∧ Step sb w w' ∧ Ctr w' sb (S + 3) := by
  have HR : Hid (Row w b n f) := hr
  have HC : Hid (Ctr w sb S) := hc
  clear hr hc
  go_enter Try.func47, Try.ntmps47
  go_wp2_with fail
  rw [show ((x : Int) - 1) = ((x - 1 : Nat) : Int) by omega, show ((x : Int) + 1) = ((x + 1 : Nat) : Int) by omega]
  refine (median_any b n lo hi (x - 1) x (x + 1) sb S f _ hn hhi (by omega) (by omega) (by omega) hS HR.out hne HC.out).mono ?_
  rintro e w1 ⟨⟨m, rfl, hm⟩, s1, k1⟩
  have HS1 : Hid (Step sb w w1) := s1
  have HC1 : Hid (Ctr w1 sb (S + 3)) := k1
  clear HR HC s1 k1
  go_wp2_with fail
  go_ret
  exact ⟨⟨m, rfl, hm⟩, HS1.out, HC1.out⟩
end Go.Proofs.Qxb6608693a.Srt

import Derived.Test.Qxb6605998aTimes
import Derived.Deep.RegionWith
import Derived.Deep.RegionHeld3
namespace Go.Proofs.Qxb6605998a.fnExpiredAtFromItsInstantOn
open Go.ChangeShapes Go.WideShapes Go.ChangeAt Go.RowKit
set_option linter.unusedVariables false

theorem band_le (a b : Int) (h0 : 0 ≤ a) (h1 : a < 1000000000) (h2 : 0 ≤ b) (h3 : b < 1000000000) : 0 ≤ bits .and .u64 a b ∧ bits .and .u64 a b < 1000000000 := by
  rw [u64_and a b h0 (by omega) h2 (by omega)]
  have := Nat.and_le_left (n := a.toNat) (m := b.toNat)
  omega
theorem isz_yes (w : World) : Calls Try.prog 16 #[.agg #[.int .u64 0, .int .i64 0, .pointer none]] w fun e w' => e = .returned (.bool true) ∧ ∃ x, w' = w.alloc (.cells x 38) := by
  go_enter Try.func16, Try.ntmps16
  go_wp2
  go_ret
  exact ⟨rfl, _, rfl⟩
theorem isz_no (n s : Int) (h : n ≠ 0 ∨ s ≠ 0) (w : World) : Calls Try.prog 16 #[.agg #[.int .u64 n, .int .i64 s, .pointer none]] w fun e w' => e = .returned (.bool false) ∧ ∃ x, w' = w.alloc (.cells x 38) := by
  by_cases hn : n = 0
  · have hs : (s == 0) = false := by simp; omega
    subst hn
    clear h
    go_enter Try.func16, Try.ntmps16
    go_wp2
    go_ret
    exact ⟨rfl, _, rfl⟩
  · have hn' : (n == 0) = false := by simpa using hn
    clear h hn
    go_enter Try.func16, Try.ntmps16
    go_wp2
    go_ret
    exact ⟨rfl, _, rfl⟩
theorem bef_any (n s m t : Int) (b : Bool) (n0 : 0 ≤ n) (n1 : n < 1000000000) (m0 : 0 ≤ m) (m1 : m < 1000000000) (hb : b = decide (s * 1000000000 + n < t * 1000000000 + m)) (w : World) :
    Calls Try.prog 17 #[.agg #[.int .u64 n, .int .i64 s, .pointer none], .agg #[.int .u64 m, .int .i64 t, .pointer none]] w fun e w' => e = .returned (.bool b) ∧ ∃ x y, w' = (w.alloc (.cells x 38)).alloc (.cells y 38) := by
  obtain ⟨z, hz⟩ : ∃ z, bits .and .u64 n m = z := ⟨_, rfl⟩
  have hzb := band_le n m n0 n1 m0 m1
  rw [hz] at hzb
  have e1 := bmono z hzb.1 hzb.2
  have e2 := bmono n n0 n1
  have e3 := bmono m m0 m1
  have e4 := band n n0 n1
  have e5 := band m m0 m1
  have e6 := w32 n (by omega) (by omega)
  have e7 := w32 m (by omega) (by omega)
  clear hzb
  by_cases c1 : s < t
  · have hb' : b = true := by rw [hb]; simp; omega
    subst hb'
    clear hb
    go_enter Try.func17, Try.ntmps17
    go_wp2
    go_ret
    exact ⟨rfl, _, _, rfl⟩
  · by_cases c2 : s = t
    · subst c2
      have hb' : b = decide (n < m) := by rw [hb]; congr 1; simp
      subst hb'
      clear hb
      have t1 : (s == s) = true := by simp
      go_enter Try.func17, Try.ntmps17
      go_wp2
      go_ret
      exact ⟨rfl, _, _, rfl⟩
    · have hb' : b = false := by rw [hb]; simp; omega
      subst hb'
      clear hb
      have t1 : (s == t) = false := by simpa using c2
      clear c2
      go_enter Try.func17, Try.ntmps17
      go_wp2
      go_ret
      exact ⟨rfl, _, _, rfl⟩
theorem exp_zero (g : Nat) (n s : Int) (w : World) (hg : g < w.heap.size) (g0 : w.cell? ⟨g, 3, none⟩ = some (.int .u64 0)) (g1 : w.cell? ⟨g, 4, none⟩ = some (.int .i64 0)) (g2 : w.cell? ⟨g, 5, none⟩ = some (.pointer none)) :
    Calls Try.prog 12 #[.pointer (some ⟨g, 0, none⟩), .agg #[.int .u64 n, .int .i64 s, .pointer none]] w fun e w' => e = .returned (.bool false) ∧ Below w.heap.size w w' ∧ Grown w w' := by
  go_enter Try.func12, Try.ntmps12
  go_wp2
  first | go_region_with (go_at_call 16; refine (isz_yes _).mono ?_; rintro e w' ⟨rfl, x, rfl⟩) | fail
  all_goals
    go_wp2
    go_ret
    exact ⟨rfl, ((((Below.refl _ _).alloc (Nat.le_refl _) _).alloc (by simp) _)).drew, (((Grown.refl _).alloc _ _).alloc _ _).drew⟩
set_option maxHeartbeats 1000000 in
theorem exp_some (g : Nat) (n s m t : Int) (b : Bool) (w : World) (hg : g < w.heap.size) (g0 : w.cell? ⟨g, 3, none⟩ = some (.int .u64 m)) (g1 : w.cell? ⟨g, 4, none⟩ = some (.int .i64 t)) (g2 : w.cell? ⟨g, 5, none⟩ = some (.pointer none))
    (hz : m ≠ 0 ∨ t ≠ 0) (n0 : 0 ≤ n) (n1 : n < 1000000000) (m0 : 0 ≤ m) (m1 : m < 1000000000) (hb : b = decide (s * 1000000000 + n < t * 1000000000 + m)) :
    Calls Try.prog 12 #[.pointer (some ⟨g, 0, none⟩), .agg #[.int .u64 n, .int .i64 s, .pointer none]] w fun e w' => e = .returned (.bool (!b)) ∧ Below w.heap.size w w' ∧ Grown w w' := by
  have A : Hid (∀ w, Calls Try.prog 16 #[.agg #[.int .u64 m, .int .i64 t, .pointer none]] w fun e w' => e = .returned (.bool false) ∧ ∃ x, w' = w.alloc (.cells x 38)) := isz_no m t hz
  have B : Hid (∀ w, Calls Try.prog 17 #[.agg #[.int .u64 n, .int .i64 s, .pointer none], .agg #[.int .u64 m, .int .i64 t, .pointer none]] w fun e w' => e = .returned (.bool b) ∧ ∃ x y, w' = (w.alloc (.cells x 38)).alloc (.cells y 38)) := bef_any n s m t b n0 n1 m0 m1 hb
  clear hz n0 n1 m0 m1 hb
  go_enter Try.func12, Try.ntmps12
  go_wp2
  go_region_with (first | (go_at_call 16; refine (A.out _).mono ?_; rintro e w' ⟨rfl, x, rfl⟩) | (go_at_call 17; refine (B.out _).mono ?_; rintro e w' ⟨rfl, y, z, rfl⟩))
  all_goals
    go_wp2
    go_ret
    exact ⟨rfl, ((((((Below.refl _ _).alloc (Nat.le_refl _) _).alloc (by simp) _).alloc (by simp; omega) _).alloc (by simp; omega) _)).drew, (((((Grown.refl _).alloc _ _).alloc _ _).alloc _ _).alloc _ _).drew⟩
end Go.Proofs.Qxb6605998a.fnExpiredAtFromItsInstantOn

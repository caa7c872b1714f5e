/-
  time.Time without a monotonic reading: Add, over the count of nanoseconds. For the seat b6605998a.
-/
import Derived.Test.Qxb6605998aRows
import Derived.WalkKit
import Derived.WalkSpells
import Derived.ProofKit
import Derived.Laws.BitsAllLaws
namespace Go.Proofs.Qxb6605998a.fnExpiredAtFromItsInstantOn
open Go.ChangeShapes Go.WideShapes Go.ChangeAt Go.RowKit
set_option linter.unusedVariables false

theorem band (n : Int) (h0 : 0 ≤ n) (h1 : n < 1000000000) : bits .and .u64 n 1073741823 = n := by
  rw [u64_and n 1073741823 h0 (by omega) (by omega) (by omega)]
  have := Nat.and_two_pow_sub_one_eq_mod n.toNat 30
  simp at this
  simp [this]
  omega
theorem bandNot (n : Int) (h0 : 0 ≤ n) (h1 : n < 1000000000) : bits .andNot .u64 n 1073741823 = 0 := by
  rw [u64_andNot n 1073741823 h0 (by omega) (by omega) (by omega)]
  have e : ((18446744073709551615 - (1073741823 : Int).toNat)) = (2 ^ 34 - 1) <<< 30 := by decide
  rw [e]
  have h : n.toNat &&& (2 ^ 34 - 1) <<< 30 = 0 := by
    apply Nat.eq_of_testBit_eq
    intro i
    rw [Nat.testBit_and, Nat.testBit_shiftLeft, Nat.zero_testBit]
    by_cases hi : 30 ≤ i
    · have : n.toNat.testBit i = false := by
        apply Nat.testBit_lt_two_pow
        have : 2 ^ 30 ≤ 2 ^ i := Nat.pow_le_pow_right (by decide) hi
        omega
      simp [this]
    · simp [hi]
  rw [h]; rfl
theorem bmono (n : Int) (h0 : 0 ≤ n) (h1 : n < 1000000000) : bits .and .u64 n 9223372036854775808 = 0 := by
  rw [u64_and n 9223372036854775808 h0 (by omega) (by omega) (by omega)]
  have h : n.toNat &&& (9223372036854775808 : Int).toNat = 0 := by
    have e : (9223372036854775808 : Int).toNat = 2 ^ 63 := by decide
    rw [e, nat_bit, Nat.div_eq_of_lt (by omega)]
  rw [h]; rfl
theorem bor0 (n : Int) (h0 : 0 ≤ n) (h1 : n < 1000000000) : bits .or .u64 0 n = n := by
  rw [u64_or 0 n (by omega) (by omega) h0 (by omega)]
  simp
  omega
theorem uwrap (n : Int) (h0 : 0 ≤ n) (h1 : n < 1000000000) : IntKind.u64.wrap n = n := by
  rw [IntKind.wrap_u64]; omega
theorem w32 (n : Int) (h0 : -2147483648 ≤ n) (h1 : n ≤ 2147483647) : wrap32 n = n := by
  unfold wrap32; omega
theorem iwrap32 (n : Int) (h0 : 0 ≤ n) (h1 : n < 1000000000) : IntKind.i32.wrap n = n := by
  simp [IntKind.wrap, IntKind.bits, IntKind.signed]; omega

set_option maxHeartbeats 400000 in
theorem add_mid (n s d q r : Int) (n0 : 0 ≤ n) (n1 : n < 1000000000) (s0 : -100000000000 ≤ s) (s1 : s ≤ 100000000000)
    (hq : d.tdiv 1000000000 = q) (hr : d.tmod 1000000000 = r) (q0 : -10000000000 ≤ q) (q1 : q ≤ 10000000000) (r0 : -1000000000 < r) (r1 : r < 1000000000)
    (c0 : 0 ≤ n + r) (c1 : n + r < 1000000000) (w : World) :
    Calls Try.prog 15 #[.agg #[.int .u64 n, .int .i64 s, .pointer none], .int .i64 d] w fun e w' => e = .returned (.agg #[.int .u64 (n + r), .int .i64 (s + q), .pointer none]) ∧ ∃ x y, w' = (w.alloc (.cells x 38)).alloc (.cells y 38) := by
  have e1 := band n n0 n1
  have e2 := bandNot n n0 n1
  have e3 := w32 r (by omega) (by omega)
  have e4 := w32 (n + r) (by omega) (by omega)
  have e5 := uwrap (n + r) (by omega) (by omega)
  have e6 := bor0 (n + r) (by omega) (by omega)
  have e7 := bmono (n + r) (by omega) (by omega)
  have t1 : (decide (s < s + q) == decide (0 < q)) = true := by simp; omega
  go_enter Try.func15, Try.ntmps15
  go_wp2
  go_end0
  go_wp2
  simp [bodyPost, results, Try.results15, go_sem]
  exact ⟨_, _, rfl⟩
set_option maxHeartbeats 400000 in
theorem add_up (n s d q r : Int) (n0 : 0 ≤ n) (n1 : n < 1000000000) (s0 : -100000000000 ≤ s) (s1 : s ≤ 100000000000)
    (hq : d.tdiv 1000000000 = q) (hr : d.tmod 1000000000 = r) (q0 : -10000000000 ≤ q) (q1 : q ≤ 10000000000) (r0 : -1000000000 < r) (r1 : r < 1000000000)
    (c1 : 1000000000 ≤ n + r) (w : World) :
    Calls Try.prog 15 #[.agg #[.int .u64 n, .int .i64 s, .pointer none], .int .i64 d] w fun e w' => e = .returned (.agg #[.int .u64 (n + r - 1000000000), .int .i64 (s + (q + 1)), .pointer none]) ∧ ∃ x y, w' = (w.alloc (.cells x 38)).alloc (.cells y 38) := by
  have e1 := band n n0 n1
  have e2 := bandNot n n0 n1
  have e3 := w32 r (by omega) (by omega)
  have e4 := w32 (n + r) (by omega) (by omega)
  have e4' := w32 (n + r - 1000000000) (by omega) (by omega)
  have e5 := uwrap (n + r - 1000000000) (by omega) (by omega)
  have e6 := bor0 (n + r - 1000000000) (by omega) (by omega)
  have e7 := bmono (n + r - 1000000000) (by omega) (by omega)
  have t1 : (decide (s < s + (q + 1)) == decide (0 < q + 1)) = true := by simp; omega
  go_enter Try.func15, Try.ntmps15
  go_wp2
  go_end0
  go_wp2
  simp [bodyPost, results, Try.results15, go_sem]
  exact ⟨_, _, rfl⟩
set_option maxHeartbeats 400000 in
theorem add_dn (n s d q r : Int) (n0 : 0 ≤ n) (n1 : n < 1000000000) (s0 : -100000000000 ≤ s) (s1 : s ≤ 100000000000)
    (hq : d.tdiv 1000000000 = q) (hr : d.tmod 1000000000 = r) (q0 : -10000000000 ≤ q) (q1 : q ≤ 10000000000) (r0 : -1000000000 < r) (r1 : r < 1000000000)
    (c1 : n + r < 0) (w : World) :
    Calls Try.prog 15 #[.agg #[.int .u64 n, .int .i64 s, .pointer none], .int .i64 d] w fun e w' => e = .returned (.agg #[.int .u64 (n + r + 1000000000), .int .i64 (s + (q - 1)), .pointer none]) ∧ ∃ x y, w' = (w.alloc (.cells x 38)).alloc (.cells y 38) := by
  have e1 := band n n0 n1
  have e2 := bandNot n n0 n1
  have e3 := w32 r (by omega) (by omega)
  have e4 := w32 (n + r) (by omega) (by omega)
  have e4' := w32 (n + r + 1000000000) (by omega) (by omega)
  have e5 := uwrap (n + r + 1000000000) (by omega) (by omega)
  have e6 := bor0 (n + r + 1000000000) (by omega) (by omega)
  have e7 := bmono (n + r + 1000000000) (by omega) (by omega)
  have t1 : (decide (s < s + (q - 1)) == decide (1 < q)) = true := by simp; omega
  have c2 : n + r < 1000000000 := by omega
  go_enter Try.func15, Try.ntmps15
  go_wp2
  go_end0
  go_wp2
  simp [bodyPost, results, Try.results15, go_sem]
  exact ⟨_, _, rfl⟩

theorem add_any (n s d : Int) (n0 : 0 ≤ n) (n1 : n < 1000000000) (s0 : -100000000000 ≤ s) (s1 : s ≤ 100000000000) (d0 : -9223372036854775808 ≤ d) (d1 : d ≤ 9223372036854775807) (w : World) :
    Calls Try.prog 15 #[.agg #[.int .u64 n, .int .i64 s, .pointer none], .int .i64 d] w fun e w' => ∃ n' s', (e = .returned (.agg #[.int .u64 n', .int .i64 s', .pointer none]) ∧ 0 ≤ n' ∧ n' < 1000000000 ∧ s' * 1000000000 + n' = s * 1000000000 + n + d) ∧ ∃ x y, w' = (w.alloc (.cells x 38)).alloc (.cells y 38) := by
  obtain ⟨q, hq⟩ : ∃ q, d.tdiv 1000000000 = q := ⟨_, rfl⟩
  obtain ⟨r, hr⟩ : ∃ r, d.tmod 1000000000 = r := ⟨_, rfl⟩
  have h1 := Int.mul_tdiv_add_tmod d 1000000000
  have h2 := Int.tmod_lt_of_pos d (b := 1000000000) (by decide)
  have h3 : -1000000000 < d.tmod 1000000000 := by
    have := Int.tmod_lt_of_pos (-d) (b := 1000000000) (by decide)
    rw [Int.neg_tmod] at this
    omega
  rw [hq, hr] at h1
  rw [hr] at h2 h3
  by_cases c1 : n + r < 0
  · refine (add_dn n s d q r n0 n1 s0 s1 hq hr (by omega) (by omega) h3 h2 c1 w).mono ?_
    rintro e w' ⟨rfl, hw⟩
    exact ⟨_, _, ⟨rfl, by omega, by omega, by omega⟩, hw⟩
  · by_cases c2 : n + r < 1000000000
    · refine (add_mid n s d q r n0 n1 s0 s1 hq hr (by omega) (by omega) h3 h2 (by omega) c2 w).mono ?_
      rintro e w' ⟨rfl, hw⟩
      exact ⟨_, _, ⟨rfl, by omega, by omega, by omega⟩, hw⟩
    · refine (add_up n s d q r n0 n1 s0 s1 hq hr (by omega) (by omega) h3 h2 (by omega) w).mono ?_
      rintro e w' ⟨rfl, hw⟩
      exact ⟨_, _, ⟨rfl, by omega, by omega, by omega⟩, hw⟩
end Go.Proofs.Qxb6605998a.fnExpiredAtFromItsInstantOn

import Derived.Test.Qxb6608693aRows
import Derived.Lib.Strings
import Derived.Lib.Slices
import Derived.Lib.Small
import Derived.Lib.Walk
import Derived.Lib.BitFns
namespace Go.Proofs.Qxb6608693a.Srt
set_option linter.unusedVariables false

theorem two_pow_len : ∀ (m x : Nat), x ≤ m → 0 < x → x < 2 ^ 64 → 2 ^ Lib.bitLen x ≤ 2 * x := by
  intro m
  induction m with
  | zero => intro x h1 h2; omega
  | succ m ih =>
    intro x h1 h2 h3
    rw [Lib.bitLen_half x (by omega) h3, Nat.add_comm, Nat.pow_succ]
    by_cases e : x / 2 = 0
    · rw [e]
      have : Lib.bitLen 0 = 0 := by decide
      rw [this]
      omega
    · have := ih (x / 2) (by omega) (by omega) (by omega)
      omega
theorem len_le {x : Nat} (h : x ≤ 65536) : Lib.bitLen x ≤ 17 := by
  by_cases h0 : x = 0
  · subst h0; decide
  · have := two_pow_len x x (Nat.le_refl _) (by omega) (by omega)
    rcases Nat.lt_or_ge 17 (Lib.bitLen x) with h1 | h1
    · have h2 : 2 ^ 18 ≤ 2 ^ Lib.bitLen x := Nat.pow_le_pow_right (by decide) h1
      omega
    · exact h1

set_option maxRecDepth 100000 in
set_option maxHeartbeats 1000000 in
theorem len64_any (x : Int) (w : World) (h0 : 0 ≤ x) (h1 : x ≤ 65536) :
    Calls Try.prog 41 #[.int .u64 x] w fun e w' => e = .returned (.int .i64 (Lib.bitLen x.toNat : Nat)) ∧ w' = w := by
  go_enter Try.func41, Try.ntmps41
  go_wp2
  all_goals (go_ret; refine ⟨congrArg Ending.returned (congrArg (Value.int IntKind.i64) ?_), rfl⟩)
  · rw [Lib.len8_of (x / 65536 % 256) (by omega) (by omega), show (x / 65536 % 256).toNat = x.toNat / 65536 by omega, Lib.bitLen_shift16 x.toNat (by omega) (by omega)]
    have : Lib.bitLen (x.toNat / 65536) ≤ 17 := len_le (by omega)
    omega
  · rw [Lib.len8_of (x / 256 % 256) (by omega) (by omega), show (x / 256 % 256).toNat = x.toNat / 256 by omega, Lib.bitLen_shift8 x.toNat (by omega) (by omega)]
    have : Lib.bitLen (x.toNat / 256) ≤ 17 := len_le (by omega)
    omega
  · rw [Lib.len8_of (x % 256) (by omega) (by omega), show (x % 256).toNat = x.toNat by omega]
    have : Lib.bitLen x.toNat ≤ 17 := len_le (by omega)
    omega

/-- math/bits.Len of a number up to 2^16: its bits are at most 17; the power of two that they make is at most twice the number. -/
theorem len_any (x : Nat) (w : World) (hx : x ≤ 65536) :
    Calls Try.prog 27 #[.int .u64 x] w fun e w' => e = .returned (.int .i64 (Lib.bitLen x : Nat)) ∧ w' = w := by
  have h := fun w => len64_any (x : Int) w (by omega) (by omega)
  rw [Int.toNat_natCast] at h
  go_enter Try.func27, Try.ntmps27
  go_wp2_with (go_at_call 41; refine (h _).mono ?_; rintro e w' ⟨rfl, rfl⟩)
  go_ret
  exact ⟨rfl, rfl⟩
end Go.Proofs.Qxb6608693a.Srt

/-
  The plain half of pdqsort's rounds at this program. No Go in this text.
-/
import Derived.Test.Qxb6608693aPartPure
namespace Go.Proofs.Qxb6608693a.Srt

/-- every pair of [lo, hi) of which not both stand in [a, b) is in order -/
def Out (lo hi a b : Nat) (g : Nat → Int) : Prop := ∀ x y, lo ≤ x → x < y → y < hi → (x < a ∨ b ≤ y) → g x ≤ g y
theorem out_start {lo hi : Nat} (g : Nat → Int) : Out lo hi lo hi g := fun x y h1 h2 h3 h4 => by omega
theorem Out.swaps {lo hi a b : Nat} {g k : Nat → Int} (h : Out lo hi a b g) (s : SwapsIn a b g k) (ha : lo ≤ a) (hb : b ≤ hi) : Out lo hi a b k := by
  intro x y h1 h2 h3 h4
  by_cases c1 : x < a
  · rw [s.out (t := x) (Or.inl c1)]
    by_cases c2 : a ≤ y ∧ y < b
    · exact s.all (fun v => g x ≤ v) (fun t t1 t2 => h x t h1 (by omega) (by omega) (Or.inl c1)) y c2.1 c2.2
    · rw [s.out (t := y) (by omega)]; exact h x y h1 h2 h3 h4
  · have c3 : b ≤ y := by omega
    rw [s.out (t := y) (Or.inr c3)]
    by_cases c2 : x < b
    · exact s.all (fun v => v ≤ g y) (fun t t1 t2 => h t y (by omega) (by omega) h3 (Or.inr c3)) x (by omega) c2
    · rw [s.out (t := x) (by omega)]; exact h x y h1 h2 h3 h4
theorem out_done {lo hi a b : Nat} {g : Nat → Int} (h : Out lo hi a b g) (s : Sorted a b g) : Sorted lo hi g := by
  intro x y h1 h2 h3
  by_cases c : x < a ∨ b ≤ y
  · exact h x y h1 h2 h3 c
  · exact s x y (by omega) h2 (by omega)
theorem out_left {lo hi a b m : Nat} {g k : Nat → Int} (h : Out lo hi a b g) (p : Parted a m b g) (s : SwapsIn a m g k) (so : Sorted a m k) (ha : lo ≤ a) (hb : b ≤ hi) (h1 : a ≤ m) (h2 : m < b) : Out lo hi (m + 1) b k := by
  have o := h.swaps (s.mono (Nat.le_refl _) (by omega)) ha hb
  have em : k m = g m := s.out (by omega)
  have l : ∀ x, a ≤ x → x < m → k x ≤ k m := fun x x1 x2 => by
    rw [em]; exact s.all (fun v => v ≤ g m) (fun t t1 t2 => Int.le_of_lt (p.1 t t1 t2)) x x1 x2
  have r : ∀ y, m < y → y < b → k m ≤ k y := fun y y1 y2 => by
    rw [em, s.out (t := y) (by omega)]; exact p.2 y y1 y2
  intro x y k1 k2 k3 k4
  by_cases c : x < a ∨ b ≤ y
  · exact o x y k1 k2 k3 c
  · by_cases c1 : y < m
    · exact so x y (by omega) k2 c1
    · by_cases c2 : y = m
      · subst c2; exact l x (by omega) k2
      · have r1 := r y (by omega) (by omega)
        by_cases c3 : x = m
        · subst c3; exact r1
        · have := l x (by omega) (by omega)
          omega
theorem out_right {lo hi a b m : Nat} {g k : Nat → Int} (h : Out lo hi a b g) (p : Parted a m b g) (s : SwapsIn (m + 1) b g k) (so : Sorted (m + 1) b k) (ha : lo ≤ a) (hb : b ≤ hi) (h1 : a ≤ m) (h2 : m < b) : Out lo hi a m k := by
  have o := h.swaps (s.mono (by omega) (Nat.le_refl _)) ha hb
  have em : k m = g m := s.out (by omega)
  have l : ∀ x, a ≤ x → x < m → k x ≤ k m := fun x x1 x2 => by
    rw [em, s.out (t := x) (by omega)]; exact Int.le_of_lt (p.1 x x1 x2)
  have r : ∀ y, m < y → y < b → k m ≤ k y := fun y y1 y2 => by
    rw [em]; exact s.all (fun v => g m ≤ v) (fun t t1 t2 => p.2 t (by omega) t2) y (by omega) y2
  intro x y k1 k2 k3 k4
  by_cases c : x < a ∨ b ≤ y
  · exact o x y k1 k2 k3 c
  · by_cases c1 : m < x
    · exact so x y (by omega) k2 (by omega)
    · by_cases c2 : x = m
      · subst c2; exact r y k2 (by omega)
      · have l1 := l x (by omega) (by omega)
        by_cases c3 : y = m
        · subst c3; exact l1
        · have := r y (by omega) (by omega)
          omega
end Go.Proofs.Qxb6608693a.Srt

/-
  The plain half of the partition at this program. No Go in this text.
-/
import Derived.Test.Qxb6608693aPure
namespace Go.Proofs.Qxb6608693a.Srt

/-- left of i all is less than the pivot at a; right of j nothing is -/
structure Parts (a i j hi : Nat) (g : Nat → Int) : Prop where
  low : ∀ x, a < x → x < i → g x < g a
  high : ∀ y, j < y → y < hi → g a ≤ g y
theorem parts_start {a hi : Nat} (g : Nat → Int) : Parts a (a + 1) (hi - 1) hi g := ⟨fun x h1 h2 => by omega, fun y h1 h2 => by omega⟩
theorem Parts.up {a i j hi : Nat} {g : Nat → Int} (h : Parts a i j hi g) (hl : g i < g a) : Parts a (i + 1) j hi g :=
  ⟨fun x h1 h2 => by
    by_cases e : x = i
    · subst e; exact hl
    · exact h.low x h1 (by omega), h.high⟩
theorem Parts.down {a i j hi : Nat} {g : Nat → Int} (h : Parts a i j hi g) (hj : 0 < j) (hl : g a ≤ g j) : Parts a i (j - 1) hi g :=
  ⟨h.low, fun y h1 h2 => by
    by_cases e : y = j
    · subst e; exact hl
    · exact h.high y (by omega) h2⟩
theorem Parts.cross {a i j hi : Nat} {g : Nat → Int} (h : Parts a i j hi g) (hai : a < i) (hij : i < j) (h1 : g a ≤ g i) (h2 : g j < g a) : Parts a (i + 1) (j - 1) hi (Sw g i j) := by
  have e : Sw g i j a = g a := sw_other g (by omega) (by omega)
  refine ⟨fun x k1 k2 => ?_, fun y k1 k2 => ?_⟩
  · rw [e]
    by_cases e1 : x = i
    · subst e1; rw [sw_left]; exact h2
    · rw [sw_other g e1 (by omega)]; exact h.low x k1 (by omega)
  · rw [e]
    by_cases e1 : y = j
    · subst e1; rw [sw_right]; exact h1
    · rw [sw_other g (by omega) e1]; exact h.high y (by omega) k2
/-- place m parts [a, hi) -/
def Parted (a m hi : Nat) (g : Nat → Int) : Prop := (∀ x, a ≤ x → x < m → g x < g m) ∧ ∀ y, m < y → y < hi → g m ≤ g y
theorem Parts.done {a i j hi : Nat} {g : Nat → Int} (h : Parts a i j hi g) (hi1 : j < i) (haj : a ≤ j) : Parted a j hi (Sw g j a) := by
  refine ⟨fun x k1 k2 => ?_, fun y k1 k2 => ?_⟩
  · rw [sw_left]
    by_cases e : x = a
    · subst e; rw [sw_right]; exact h.low j (by omega) hi1
    · rw [sw_other g (by omega) e]; exact h.low x (by omega) (by omega)
  · rw [sw_left, sw_other g (by omega) (by omega)]; exact h.high y k1 k2
end Go.Proofs.Qxb6608693a.Srt

/-
  The plain half of heap sort at this program. No Go in this text.
-/
import Derived.Test.Qxb6608693aPure
namespace Go.Proofs.Qxb6608693a.Srt

/-- from node lo on no child of [first, first + hi) is greater than its parent -/
def HeapOn (lo hi first : Nat) (f : Nat → Int) : Prop := ∀ c, 0 < c → c < hi → lo ≤ (c - 1) / 2 → f (first + c) ≤ f (first + (c - 1) / 2)
/-- .. but for the children of r, which are not greater than r's own parent -/
def HeapEx (lo hi first r : Nat) (f : Nat → Int) : Prop :=
  (∀ c, 0 < c → c < hi → lo ≤ (c - 1) / 2 → (c - 1) / 2 ≠ r → f (first + c) ≤ f (first + (c - 1) / 2)) ∧
  (0 < r → lo ≤ (r - 1) / 2 → ∀ c, 0 < c → c < hi → (c - 1) / 2 = r → f (first + c) ≤ f (first + (r - 1) / 2))
theorem heapEx_start {lo hi first : Nat} {f : Nat → Int} (h : HeapOn (lo + 1) hi first f) : HeapEx lo hi first lo f :=
  ⟨fun c h1 h2 h3 h4 => h c h1 h2 (by omega), fun h1 h2 => by omega⟩
theorem heapEx_step {lo hi first r c : Nat} {f : Nat → Int} (h : HeapEx lo hi first r f) (hr : lo ≤ r) (hc : c < hi) (hp : c = 2 * r + 1 ∨ c = 2 * r + 2)
    (hmax : ∀ d, 0 < d → d < hi → (d - 1) / 2 = r → f (first + d) ≤ f (first + c)) (hlt : f (first + r) < f (first + c)) : HeapEx lo hi first c (Sw f (first + r) (first + c)) := by
  have hcr : (c - 1) / 2 = r := by omega
  refine ⟨fun d h1 h2 h3 h4 => ?_, fun h1 h2 d h3 h4 h5 => ?_⟩
  · by_cases e : (d - 1) / 2 = r
    · rw [e, sw_left]
      by_cases e2 : d = c
      · subst e2; rw [sw_right]; omega
      · rw [sw_other f (by omega) (by omega)]; exact hmax d h1 h2 e
    · rw [sw_other f (t := first + (d - 1) / 2) (by omega) (by omega)]
      by_cases e2 : d = r
      · subst e2; rw [sw_left]; exact h.2 h1 h3 c (by omega) hc hcr
      · by_cases e3 : d = c
        · omega
        · rw [sw_other f (by omega) (by omega)]; exact h.1 d h1 h2 h3 e
  · rw [hcr, sw_left, sw_other f (by omega) (by omega)]
    have := h.1 d h3 h4 (by omega) (by omega)
    rw [h5] at this
    exact this
theorem heapEx_stop {lo hi first r : Nat} {f : Nat → Int} (h : HeapEx lo hi first r f) (hs : ∀ d, 0 < d → d < hi → (d - 1) / 2 = r → f (first + d) ≤ f (first + r)) : HeapOn lo hi first f := by
  intro c h1 h2 h3
  by_cases e : (c - 1) / 2 = r
  · rw [e]; exact hs c h1 h2 e
  · exact h.1 c h1 h2 h3 e
theorem heap_max {hi first : Nat} {f : Nat → Int} (h : HeapOn 0 hi first f) : ∀ m x, x ≤ m → x < hi → f (first + x) ≤ f first := by
  intro m
  induction m with
  | zero => intro x hx _; obtain rfl : x = 0 := by omega
            exact Int.le_refl _
  | succ m ih =>
    intro x hx hxi
    by_cases h0 : x = 0
    · subst h0; exact Int.le_refl _
    · have h1 := h x (by omega) hxi (by omega)
      have h2 := ih ((x - 1) / 2) (by omega) (by omega)
      omega
theorem heap_leaves {hi first : Nat} (f : Nat → Int) : HeapOn ((hi - 1) / 2 + 1) hi first f := fun c h1 h2 h3 => by omega

/-- i + 1 numbers are still a heap; those behind them are in order and not less -/
def Popped (first hi m : Nat) (f : Nat → Int) : Prop := HeapOn 0 m first f ∧ Sorted (first + m) (first + hi) f ∧ ∀ x y, x < m → m ≤ y → y < hi → f (first + x) ≤ f (first + y)
theorem popped_start {first hi : Nat} {f : Nat → Int} (h : HeapOn 0 hi first f) : Popped first hi hi f := ⟨h, fun i j h1 h2 h3 => by omega, fun x y h1 h2 h3 => by omega⟩
theorem popped_swap {first hi m : Nat} {f : Nat → Int} (h : Popped first hi (m + 1) f) (hm : m < hi) :
    HeapOn 1 m first (Sw f first (first + m)) ∧ Sorted (first + m) (first + hi) (Sw f first (first + m)) ∧ ∀ x y, x < m → m ≤ y → y < hi → Sw f first (first + m) (first + x) ≤ Sw f first (first + m) (first + y) := by
  obtain ⟨h1, h2, h3⟩ := h
  have top : ∀ x, x ≤ m → f (first + x) ≤ f first := fun x hx => heap_max h1 x x (Nat.le_refl _) (by omega)
  refine ⟨fun c k1 k2 k3 => ?_, fun i j k1 k2 k3 => ?_, fun x y k1 k2 k3 => ?_⟩
  · rw [sw_other f (by omega) (by omega), sw_other f (by omega) (by omega)]
    exact h1 c k1 (by omega) (by omega)
  · rw [sw_other f (t := j) (by omega) (by omega)]
    by_cases e : i = first + m
    · subst e; rw [sw_right]
      have := h3 0 (j - first) (by omega) (by omega) (by omega)
      rw [show first + (j - first) = j by omega] at this
      exact this
    · rw [sw_other f (by omega) e]; exact h2 i j (by omega) k2 k3
  · have hv : Sw f first (first + m) (first + x) ≤ f first := by
      by_cases e : x = 0
      · subst e; rw [Nat.add_zero, sw_left]; exact top m (Nat.le_refl _)
      · rw [sw_other f (by omega) (by omega)]; exact top x (by omega)
    by_cases e : y = m
    · subst e; rw [sw_right]; exact hv
    · rw [sw_other f (t := first + y) (by omega) (by omega)]
      have := h3 0 y (by omega) (by omega) k3
      rw [Nat.add_zero] at this
      omega
theorem popped_sift {first hi m : Nat} {f g : Nat → Int} (h2 : Sorted (first + m) (first + hi) f) (h3 : ∀ x y, x < m → m ≤ y → y < hi → f (first + x) ≤ f (first + y))
    (s : SwapsIn first (first + m) f g) (hg : HeapOn 0 m first g) : Popped first hi m g := by
  refine ⟨hg, fun i j k1 k2 k3 => ?_, fun x y k1 k2 k3 => ?_⟩
  · rw [s.out (by omega), s.out (by omega)]; exact h2 i j k1 k2 k3
  · rw [s.out (t := first + y) (by omega)]
    refine s.all (fun v => v ≤ f (first + y)) (fun t t1 t2 => ?_) (first + x) (by omega) (by omega)
    have := h3 (t - first) y (by omega) k2 k3
    rw [show first + (t - first) = t by omega] at this
    exact this
theorem popped_end {first hi : Nat} {f : Nat → Int} (h : Popped first hi 0 f) : Sorted first (first + hi) f := h.2.1
end Go.Proofs.Qxb6608693a.Srt

/-
  The plain half of the sort at this program: a row as a function of its place; exchanges inside a range; what each routine leaves in order. No Go in this text.
-/
namespace Go.Proofs.Qxb6608693a.Srt

/-- places p and q exchanged -/
def Sw (f : Nat → Int) (p q : Nat) : Nat → Int := fun t => if t = q then f p else if t = p then f q else f t
theorem sw_left (f : Nat → Int) (p q : Nat) : Sw f p q p = f q := by
  unfold Sw
  by_cases h : p = q <;> simp [h]
theorem sw_right (f : Nat → Int) (p q : Nat) : Sw f p q q = f p := by simp [Sw]
theorem sw_other (f : Nat → Int) {p q t : Nat} (h1 : t ≠ p) (h2 : t ≠ q) : Sw f p q t = f t := by simp [Sw, h1, h2]

/-- g is f with places inside [lo, hi) exchanged, one pair after the other -/
def SwapsIn (lo hi : Nat) (f g : Nat → Int) : Prop :=
  ∃ l : List (Nat × Nat), (∀ p ∈ l, (lo ≤ p.1 ∧ p.1 < hi) ∧ (lo ≤ p.2 ∧ p.2 < hi)) ∧ g = l.foldl (fun h p => Sw h p.1 p.2) f
theorem SwapsIn.refl (lo hi : Nat) (f : Nat → Int) : SwapsIn lo hi f f := ⟨[], by simp, rfl⟩
theorem SwapsIn.trans {lo hi : Nat} {f g h : Nat → Int} (a : SwapsIn lo hi f g) (b : SwapsIn lo hi g h) : SwapsIn lo hi f h := by
  obtain ⟨l, hl, rfl⟩ := a
  obtain ⟨m, hm, rfl⟩ := b
  refine ⟨l ++ m, fun p hp => ?_, by rw [List.foldl_append]⟩
  rcases List.mem_append.1 hp with h | h
  · exact hl p h
  · exact hm p h
theorem SwapsIn.mono {lo hi lo' hi' : Nat} {f g : Nat → Int} (a : SwapsIn lo hi f g) (h1 : lo' ≤ lo) (h2 : hi ≤ hi') : SwapsIn lo' hi' f g := by
  obtain ⟨l, hl, rfl⟩ := a
  exact ⟨l, fun p hp => by have := hl p hp; omega, rfl⟩
theorem SwapsIn.one {lo hi : Nat} (f : Nat → Int) {p q : Nat} (h1 : lo ≤ p) (h2 : p < hi) (h3 : lo ≤ q) (h4 : q < hi) : SwapsIn lo hi f (Sw f p q) :=
  ⟨[(p, q)], by simp; omega, rfl⟩
theorem SwapsIn.step {lo hi : Nat} {f g : Nat → Int} (a : SwapsIn lo hi f g) {p q : Nat} (h1 : lo ≤ p) (h2 : p < hi) (h3 : lo ≤ q) (h4 : q < hi) : SwapsIn lo hi f (Sw g p q) :=
  a.trans (SwapsIn.one g h1 h2 h3 h4)

/-- whatever one exchange inside the range keeps, all keep -/
theorem SwapsIn.keeps {lo hi : Nat} {f g : Nat → Int} (a : SwapsIn lo hi f g) (P : (Nat → Int) → Prop) (h0 : P f) (hs : ∀ k p q, lo ≤ p → p < hi → lo ≤ q → q < hi → P k → P (Sw k p q)) : P g := by
  obtain ⟨l, hl, rfl⟩ := a
  induction l generalizing f with
  | nil => exact h0
  | cons p l ih =>
    have hp := hl p (by simp)
    exact ih (hs f p.1 p.2 hp.1.1 hp.1.2 hp.2.1 hp.2.2 h0) (fun q hq => hl q (by simp [hq]))
theorem SwapsIn.out {lo hi : Nat} {f g : Nat → Int} (a : SwapsIn lo hi f g) {t : Nat} (h : t < lo ∨ hi ≤ t) : g t = f t := by
  refine a.keeps (fun k => k t = f t) rfl fun k p q h1 h2 h3 h4 hk => ?_
  rw [sw_other k (by omega) (by omega)]
  exact hk
/-- what holds of every number in the range holds of every one behind -/
theorem SwapsIn.all {lo hi : Nat} {f g : Nat → Int} (a : SwapsIn lo hi f g) (P : Int → Prop) (h : ∀ t, lo ≤ t → t < hi → P (f t)) : ∀ t, lo ≤ t → t < hi → P (g t) := by
  refine a.keeps (fun k => ∀ t, lo ≤ t → t < hi → P (k t)) h fun k p q h1 h2 h3 h4 hk t ht1 ht2 => ?_
  unfold Sw
  split
  · exact hk p h1 h2
  · split
    · exact hk q h3 h4
    · exact hk t ht1 ht2

/-- the numbers of [0, n) are distinct -/
def Distinct (n : Nat) (f : Nat → Int) : Prop := ∀ i j, i < j → j < n → f i ≠ f j
theorem Distinct.sw {n : Nat} {f : Nat → Int} (h : Distinct n f) {p q : Nat} (hp : p < n) (hq : q < n) : Distinct n (Sw f p q) := by
  have key : ∀ i j, i ≠ j → i < n → j < n → f i ≠ f j := fun i j hij hi hj => by
    rcases Nat.lt_or_gt_of_ne hij with h1 | h1
    · exact h i j h1 hj
    · exact (h j i h1 hi).symm
  intro i j hij hj
  by_cases hpq : p = q
  · subst hpq
    have e : ∀ t, Sw f p p t = f t := fun t => by unfold Sw; by_cases h : t = p <;> simp [h]
    rw [e, e]
    exact h i j hij hj
  · by_cases h1 : i = p
    · subst h1
      rw [sw_left]
      by_cases h2 : j = q
      · subst h2; rw [sw_right]; exact key _ _ (by omega) (by omega) (by omega)
      · rw [sw_other f (by omega) h2]; exact key _ _ (by omega) (by omega) (by omega)
    · by_cases h2 : i = q
      · subst h2
        rw [sw_right]
        by_cases h3 : j = p
        · subst h3; rw [sw_left]; exact key _ _ (by omega) (by omega) (by omega)
        · rw [sw_other f h3 (by omega)]; exact key _ _ (by omega) (by omega) (by omega)
      · rw [sw_other f h1 h2]
        by_cases h3 : j = p
        · subst h3; rw [sw_left]; exact key _ _ (by omega) (by omega) (by omega)
        · by_cases h4 : j = q
          · subst h4; rw [sw_right]; exact key _ _ (by omega) (by omega) (by omega)
          · rw [sw_other f h3 h4]; exact h i j hij hj
theorem SwapsIn.distinct {lo hi n : Nat} {f g : Nat → Int} (a : SwapsIn lo hi f g) (hn : hi ≤ n) (h : Distinct n f) : Distinct n g :=
  a.keeps (Distinct n) h fun k p q h1 h2 h3 h4 hk => hk.sw (by omega) (by omega)

/-- [lo, hi) is in ascending order -/
def Sorted (lo hi : Nat) (f : Nat → Int) : Prop := ∀ i j, lo ≤ i → i < j → j < hi → f i ≤ f j
theorem sorted_snoc {lo hi : Nat} {f : Nat → Int} (h : Sorted lo hi f) (h1 : lo < hi → f (hi - 1) ≤ f hi) : Sorted lo (hi + 1) f := by
  intro i j hi1 hij hj
  by_cases e : j = hi
  · subst e
    have h2 := h1 (by omega)
    by_cases e2 : i = j - 1
    · subst e2; exact h2
    · have := h i (j - 1) hi1 (by omega) (by omega)
      omega
  · exact h i j hi1 hij (by omega)

/-! ### insertion sort -/
/-- [lo, i] is in order but for the number at j, which may stand too high -/
def Gap (lo i j : Nat) (f : Nat → Int) : Prop := ∀ x y, lo ≤ x → x < y → y ≤ i → y ≠ j → f x ≤ f y
theorem gap_start {lo i : Nat} {f : Nat → Int} (h : Sorted lo i f) : Gap lo i i f := fun x y h1 h2 h3 h4 => h x y h1 h2 (by omega)
theorem gap_step {lo i j : Nat} {f : Nat → Int} (h : Gap lo i j f) (hj : lo < j) (hji : j ≤ i) (hlt : f j < f (j - 1)) : Gap lo i (j - 1) (Sw f j (j - 1)) := by
  intro x y h1 h2 h3 h4
  by_cases e1 : y = j
  · subst e1
    rw [sw_left]
    by_cases e2 : x = y - 1
    · subst e2; rw [sw_right]; omega
    · rw [sw_other f (by omega) e2]; exact h x (y - 1) h1 (by omega) (by omega) (by omega)
  · rw [sw_other f e1 h4]
    by_cases e2 : x = j
    · subst e2; rw [sw_left]; exact h (x - 1) y (by omega) (by omega) h3 (by omega)
    · by_cases e3 : x = j - 1
      · subst e3; rw [sw_right]; exact h j y (by omega) (by omega) h3 (by omega)
      · rw [sw_other f e2 e3]; exact h x y h1 h2 h3 e1
theorem gap_stop {lo i j : Nat} {f : Nat → Int} (h : Gap lo i j f) (hji : j ≤ i) (hlo : lo ≤ j) (hs : j = lo ∨ f (j - 1) ≤ f j) : Sorted lo (i + 1) f := by
  intro x y h1 h2 h3
  by_cases e : y = j
  · subst e
    rcases hs with hs | hs
    · omega
    · by_cases e2 : x = y - 1
      · subst e2; exact hs
      · have := h x (y - 1) h1 (by omega) (by omega) (by omega)
        omega
  · exact h x y h1 h2 (by omega) e
end Go.Proofs.Qxb6608693a.Srt

/-
  The plain half of the law: the present validators as a list, counted and sorted. No Go in this text.
-/
import Derived.Test.Qxb6608693aPure
namespace Go.Proofs.Qxb6608693a
open Srt

/-- those of [0, n) that q takes, ascending -/
def pick (q : Nat → Bool) (n : Nat) : List Nat := (List.range n).filter q
/-- how many of [0, v) q takes -/
def cnt (q : Nat → Bool) (v : Nat) : Nat := (pick q v).length
theorem cnt_zero (q : Nat → Bool) : cnt q 0 = 0 := rfl
theorem cnt_yes {q : Nat → Bool} {v : Nat} (h : q v = true) : cnt q (v + 1) = cnt q v + 1 := by
  simp [cnt, pick, List.range_succ, List.filter_append, h]
theorem cnt_no {q : Nat → Bool} {v : Nat} (h : q v = false) : cnt q (v + 1) = cnt q v := by
  simp [cnt, pick, List.range_succ, List.filter_append, h]
theorem cnt_le (q : Nat → Bool) (v : Nat) : cnt q v ≤ v := by
  have := List.length_filter_le q (List.range v)
  simpa [cnt, pick] using this
theorem cnt_mono (q : Nat → Bool) {v n : Nat} (h : v ≤ n) : cnt q v ≤ cnt q n := by
  obtain ⟨m, rfl⟩ : ∃ m, n = v + m := ⟨n - v, by omega⟩
  simp [cnt, pick, List.range_add, List.filter_append]
theorem pick_at {q : Nat → Bool} {v n : Nat} (hv : v < n) (h : q v = true) : (pick q n)[cnt q v]? = some v := by
  obtain ⟨m, rfl⟩ : ∃ m, n = (v + 1) + m := ⟨n - (v + 1), by omega⟩
  simp only [pick, cnt, List.range_add, List.range_succ, List.filter_append, List.append_assoc]
  rw [List.getElem?_append_right (Nat.le_refl _)]
  simp [h]
theorem cnt_lt {q : Nat → Bool} {v n : Nat} (hv : v < n) (h : q v = true) : cnt q v < cnt q n := by
  have := cnt_mono q (v := v + 1) (n := n) hv
  rw [cnt_yes h] at this
  omega
theorem pick_mem {q : Nat → Bool} {v n : Nat} : v ∈ pick q n ↔ v < n ∧ q v = true := by simp [pick]
theorem pick_nodup (q : Nat → Bool) (n : Nat) : (pick q n).Nodup := List.Nodup.sublist List.filter_sublist List.nodup_range
theorem cnt_congr {q r : Nat → Bool} {n : Nat} (h : ∀ v, v < n → q v = r v) : pick q n = pick r n := by
  unfold pick
  apply List.filter_congr
  intro v hv
  exact h v (by simpa using hv)

/-- the validators that are listed -/
def lst (p : Nat → Nat) (k : Nat) : List Nat := (List.range k).map p
def has (p : Nat → Nat) (k : Nat) (v : Nat) : Bool := decide (v ∈ lst p k)
theorem has_iff {p : Nat → Nat} {k v : Nat} : has p k v = true ↔ ∃ j, j < k ∧ p j = v := by simp [has, lst]
theorem lst_nodup {p : Nat → Nat} {k : Nat} (h : ∀ i j, i < j → j < k → p i ≠ p j) : (lst p k).Nodup := by
  unfold lst
  rw [List.Nodup, List.pairwise_iff_getElem]
  intro i j hi hj hij
  simp at hi hj ⊢
  exact h i j hij hj
theorem lst_perm {p : Nat → Nat} {k n : Nat} (h : ∀ i j, i < j → j < k → p i ≠ p j) (hr : ∀ j, j < k → p j < n) : (lst p k).Perm (pick (has p k) n) := by
  rw [List.perm_ext_iff_of_nodup (lst_nodup h) (pick_nodup _ _)]
  intro v
  rw [pick_mem, has_iff]
  simp only [lst, List.mem_map, List.mem_range]
  constructor
  · rintro ⟨j, hj, rfl⟩
    exact ⟨hr j hj, j, hj, rfl⟩
  · rintro ⟨_, j, hj, rfl⟩
    exact ⟨j, hj, rfl⟩
theorem k_eq {p : Nat → Nat} {k n : Nat} (h : ∀ i j, i < j → j < k → p i ≠ p j) (hr : ∀ j, j < k → p j < n) : cnt (has p k) n = k := by
  have := (lst_perm h hr).length_eq
  simpa [lst, cnt] using this.symm
/-- the forks that are met in going through the list are all there are -/
theorem forks_eq {p : Nat → Nat} {k n : Nat} {F : Nat → Bool} (h : ∀ i j, i < j → j < k → p i ≠ p j) (hr : ∀ j, j < k → p j < n) (hF : ∀ v, v < n → F v = true → has p k v = true) :
    cnt (fun j => F (p j)) k = cnt F n := by
  have e1 : (pick (fun j => F (p j)) k).map p = (lst p k).filter F := by
    unfold pick lst
    rw [List.filter_map]
    rfl
  have e2 := congrArg List.length e1
  rw [List.length_map] at e2
  have e3 := ((lst_perm h hr).filter F).length_eq
  have e4 : (pick (has p k) n).filter F = pick F n := by
    unfold pick
    rw [List.filter_filter]
    apply List.filter_congr
    intro v hv
    have := hF v (by simpa using hv)
    by_cases e : F v = true
    · simp [e, this e]
    · simp [e]
  unfold cnt
  rw [e2, e3, e4]

/-- behind the sort the list is the ascending one -/
theorem sorted_list {p : Nat → Nat} {k n : Nat} (h : ∀ i j, i < j → j < k → p i ≠ p j) (hr : ∀ j, j < k → p j < n) {f g : Nat → Int} (hf : ∀ j, j < k → f j = p j) (s : SwapsIn 0 k f g) (so : Sorted 0 k g) :
    ∀ j, j < k → ∃ v, (pick (has p k) n)[j]? = some v ∧ g j = (v : Int) := by
  have hdf : Distinct k f := fun i j hij hj => by rw [hf i (by omega), hf j hj]; have := h i j hij hj; omega
  have hdg := s.distinct (Nat.le_refl _) hdf
  have mem : ∀ x : Int, (∃ j, j < k ∧ g j = x) ↔ (∃ j, j < k ∧ f j = x) := by
    refine s.keeps (fun m => ∀ x : Int, (∃ j, j < k ∧ m j = x) ↔ (∃ j, j < k ∧ f j = x)) (fun x => Iff.rfl) fun m a c _ ha _ hc hm x => ?_
    rw [← hm x]
    constructor
    · rintro ⟨j, hj, rfl⟩
      unfold Sw
      by_cases e1 : j = c
      · exact ⟨a, ha, by simp [e1]⟩
      · by_cases e2 : j = a
        · exact ⟨c, hc, by subst e2; simp [e1]⟩
        · exact ⟨j, hj, by simp [e1, e2]⟩
    · rintro ⟨j, hj, rfl⟩
      by_cases e1 : j = c
      · subst e1; exact ⟨a, ha, sw_left m a j⟩
      · by_cases e2 : j = a
        · subst e2; exact ⟨c, hc, sw_right m j c⟩
        · exact ⟨j, hj, sw_other m e2 e1⟩
  have hg : ∀ j, j < k → ∃ v : Nat, g j = v := fun j hj => by
    obtain ⟨i, hi, e⟩ := (mem (g j)).1 ⟨j, hj, rfl⟩
    exact ⟨p i, by rw [← e, hf i hi]⟩
  have gn : ∀ j, j < k → g j = ((g j).toNat : Int) := fun j hj => by obtain ⟨v, hv⟩ := hg j hj; rw [hv]; simp
  have e : lst (fun j => (g j).toNat) k = pick (has p k) n := by
    refine List.Perm.eq_of_pairwise (le := fun x y => x ≤ y) (fun a c _ _ h1 h2 => Nat.le_antisymm h1 h2) ?_ ?_ ?_
    · rw [List.pairwise_iff_getElem]
      intro i j hi hj hij
      simp [lst] at hi hj ⊢
      have := so i j (Nat.zero_le _) hij hj
      omega
    · exact List.Pairwise.imp (fun h => Nat.le_of_lt h) (List.Pairwise.filter _ List.pairwise_lt_range)
    · refine List.Perm.trans ?_ (lst_perm h hr)
      rw [List.perm_ext_iff_of_nodup (lst_nodup fun i j hij hj => ?_) (lst_nodup h)]
      · intro v
        simp only [lst, List.mem_map, List.mem_range]
        constructor
        · rintro ⟨j, hj, rfl⟩
          obtain ⟨i, hi, e⟩ := (mem (g j)).1 ⟨j, hj, rfl⟩
          exact ⟨i, hi, by rw [← e, hf i hi]; simp⟩
        · rintro ⟨j, hj, rfl⟩
          obtain ⟨i, hi, e⟩ := (mem (p j)).2 ⟨j, hj, hf j hj⟩
          exact ⟨i, hi, by rw [e]; simp⟩
      · have h1 := hdg i j hij hj
        have h2 := gn i (by omega)
        have h3 := gn j hj
        omega
  intro j hj
  refine ⟨(g j).toNat, ?_, gn j hj⟩
  rw [← e]
  simp [lst, hj]
end Go.Proofs.Qxb6608693a

import Derived.Test.Qxb6608693aLists
namespace Go.Proofs.Qxb6608693a
open Srt
set_option linter.unusedVariables false

theorem cnt_take (V : List Nat) (F : Nat → Bool) : ∀ j, j ≤ V.length → cnt (fun t => F (V.getD t 0)) j = ((V.take j).filter F).length := by
  intro j
  induction j with
  | zero => intro _; simp [cnt_zero]
  | succ j ih =>
    intro h
    have hj : j < V.length := by omega
    have e : V.take (j + 1) = V.take j ++ [V.getD j 0] := by
      rw [List.take_add_one, List.getElem?_eq_getElem hj]; simp [hj]
    rw [e, List.filter_append, List.length_append, ← ih (by omega)]
    cases hF : F (V.getD j 0) with
    | true => rw [cnt_yes (q := fun t => F (V.getD t 0)) hF, List.filter_cons_of_pos hF]; simp
    | false => rw [cnt_no (q := fun t => F (V.getD t 0)) hF, List.filter_cons_of_neg (by rw [hF]; simp)]; simp
theorem filter_at (V : List Nat) (F : Nat → Bool) {j : Nat} (hj : j < V.length) (hF : F (V.getD j 0) = true) : (V.filter F)[((V.take j).filter F).length]? = some (V.getD j 0) := by
  have e : V = V.take j ++ (V.getD j 0 :: V.drop (j + 1)) := by
    have h1 := (List.take_append_drop j V).symm
    rw [List.drop_eq_getElem_cons hj] at h1
    have : V[j] = V.getD j 0 := by simp [hj]
    rw [this] at h1
    exact h1
  have e2 : V.filter F = (V.take j).filter F ++ (V.getD j 0 :: (V.drop (j + 1)).filter F) := by
    conv => lhs; rw [e]
    rw [List.filter_append, List.filter_cons_of_pos hF]
  rw [e2, List.getElem?_append_right (Nat.le_refl _)]
  simp
theorem pick_filter {q F : Nat → Bool} {n : Nat} (h : ∀ v, v < n → F v = true → q v = true) : (pick q n).filter F = pick F n := by
  unfold pick
  rw [List.filter_filter]
  refine List.filter_congr fun v hv => ?_
  have := h v (List.mem_range.1 hv)
  cases hF : F v with
  | false => simp
  | true => simp [this hF]
/-- the forked ones, in the order of the validators present -/
theorem fork_at {q F : Nat → Bool} {n j : Nat} (h : ∀ v, v < n → F v = true → q v = true) (hj : j < (pick q n).length) (hF : F ((pick q n).getD j 0) = true) :
    (pick F n)[cnt (fun t => F ((pick q n).getD t 0)) j]? = some ((pick q n).getD j 0) := by
  rw [cnt_take _ _ _ (by omega), ← pick_filter h]
  exact filter_at _ _ hj hF
theorem fork_all {q F : Nat → Bool} {n : Nat} (h : ∀ v, v < n → F v = true → q v = true) : cnt (fun t => F ((pick q n).getD t 0)) (pick q n).length = cnt F n := by
  rw [cnt_take _ _ _ (Nat.le_refl _), List.take_length, pick_filter h]; rfl
theorem pick_getD_lt {q : Nat → Bool} {n j : Nat} (hj : j < (pick q n).length) : (pick q n).getD j 0 < n := by
  have : (pick q n).getD j 0 ∈ pick q n := by simp [hj]
  exact (pick_mem.1 this).1
end Go.Proofs.Qxb6608693a

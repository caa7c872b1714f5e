import Derived.Test.Qxb6608693aKeepN
import Derived.Test.Qxb6608693aDom
namespace Go.Proofs.Qxb6608693a
open Go.RowKit Go.Deep Srt
set_option linter.unusedVariables false
set_option linter.unusedSimpArgs false

set_option maxHeartbeats 2000000 in
theorem bytes_any (a0 a1 a2 : Option Addr) (n c0 nf c1 k c2 : Nat) (w : World) :
    Calls Try.prog 5 #[.slice a0 n c0, .slice a1 nf c1, .slice a2 k c2] w fun e w' => BoolEnd e (fun _ => True) ∧ w' = w := by
  go_enter Try.func5, Try.ntmps5
  go_wp2
  all_goals (go_ret; exact ⟨⟨_, rfl, trivial⟩, rfl⟩)

set_option maxRecDepth 100000 in
set_option maxHeartbeats 2000000 in
theorem graph_any (x y z : Option Addr) (n c0 nf c1 k c2 : Nat) (w : World) :
    Calls Try.prog 9 #[.slice x n c0, .slice y nf c1, .slice z k c2] w fun e w' => e = .returned (.pointer (some ⟨w.heap.size, 0, none⟩)) ∧ Below w.heap.size w w' ∧ w'.heap.size = w.heap.size + 1 ∧ GAt w' w.heap.size (.slice x n c0) (.slice y nf c1) (.slice z k c2) := by
  go_enter Try.func9, Try.ntmps9
  go_wp2
  go_ret
  refine ⟨rfl, (Below.refl _ _).alloc (Nat.le_refl _) _, by simp, ?_, ?_, ?_, ?_, ?_, fun j => ?_⟩
  all_goals simp [go_sem]

def nat (P : Nat → Int) (j : Nat) : Nat := (P j).toNat
/-- whichever way the draft went, its row is kept -/
def KeptAny (lo G n k : Nat) (L : Nat → Int) (F : Nat → Bool) (p : Nat → Nat) (w' : World) : Prop :=
  (n ≤ 2 * k → Kept lo G [] n L (pick F n) w') ∧ (¬ n ≤ 2 * k → Kept lo G (pick (has p k) n) k (fun t => L ((pick (has p k) n).getD t 0)) (pick F n) w')
theorem Dom.eq {n k : Nat} {L : Nat → Int} {F : Nat → Bool} {P : Nat → Int} (d : Dom n k L F P) {j : Nat} (hj : j < k) : P j = (nat P j : Int) := by
  have := d.range j hj; unfold nat; omega
theorem Dom.lt {n k : Nat} {L : Nat → Int} {F : Nat → Bool} {P : Nat → Int} (d : Dom n k L F P) {j : Nat} (hj : j < k) : nat P j < n := by
  have := d.range j hj; unfold nat; omega
theorem Dom.ne {n k : Nat} {L : Nat → Int} {F : Nat → Bool} {P : Nat → Int} (d : Dom n k L F P) {i j : Nat} (h : i < j) (hj : j < k) : nat P i ≠ nat P j := by
  have h1 := d.range j hj
  have h2 := d.range i (by omega)
  have := d.dist i j h hj
  unfold nat; omega
theorem Dom.fork {n k : Nat} {L : Nat → Int} {F : Nat → Bool} {P : Nat → Int} (d : Dom n k L F P) {v : Nat} (hv : v < n) (hF : F v = true) : has (nat P) k v = true := by
  by_cases h : has (nat P) k v = true
  · exact h
  · have := (d.absent v hv (fun j hj e => h (has_iff.2 ⟨j, hj, by have := d.eq hj; omega⟩))).2
    rw [this] at hF; cases hF
theorem pick_none {q : Nat → Bool} {n : Nat} (h : ∀ v, v < n → q v = false) : pick q n = [] := by
  unfold pick
  rw [List.filter_eq_nil_iff]
  intro v hv
  rw [h v (List.mem_range.1 hv)]; simp
theorem keep18 (lo G XB YB ZB n k : Nat) (x y z : Option Addr) (L : Nat → Int) (F : Nat → Bool) (P : Nat → Int) (w : World) (hn2 : n ≤ 65536) (hk2 : k ≤ 65536)
    (g : GAt w G (.slice x n n) (.slice y n n) (.slice z k k)) (cx : n = 0 ∨ x = some ⟨XB, 0, none⟩ ∧ w.rowIs XB 21 n (fun i => .int .i32 (L i))) (cy : n = 0 ∨ y = some ⟨YB, 0, none⟩ ∧ w.rowIs YB 4 n (fun i => .bool (F i)))
    (cz : k = 0 ∨ z = some ⟨ZB, 0, none⟩ ∧ w.rowIs ZB 21 k (fun i => .int .i32 (P i))) (d : Dom n k L F P) (hl1 : lo ≤ XB) (hl2 : lo ≤ YB) (hl3 : lo ≤ ZB) (hl4 : lo ≤ G)
    (hn : 0 < n → XB ≠ G ∧ YB ≠ G ∧ XB ≠ ZB ∧ YB ≠ ZB) (hk : 0 < k → ZB ≠ G) :
    Calls Try.prog 18 #[.pointer (some ⟨G, 0, none⟩)] w fun e w' => e = .returned (.tuple #[]) ∧ Below lo w w' ∧ KeptAny lo G n k L F (nat P) w' := by
  rcases Nat.eq_zero_or_pos n with h0 | h0
  · subst h0
    have hk0 : k = 0 := by
      rcases Nat.eq_zero_or_pos k with h | h
      · exact h
      · have := d.range 0 h; omega
    subst hk0
    refine (keep_none lo G x y z L w g hl4).mono ?_
    rintro e w' ⟨h1, h2, h3⟩
    exact ⟨h1, h2, fun _ => h3, fun h => absurd (Nat.zero_le _) h⟩
  · obtain ⟨n1, n2, n3, n4⟩ := hn h0
    obtain ⟨rfl, rX⟩ : x = some ⟨XB, 0, none⟩ ∧ w.rowIs XB 21 n (fun i => .int .i32 (L i)) := cx.resolve_left (by omega)
    obtain ⟨rfl, rY⟩ : y = some ⟨YB, 0, none⟩ ∧ w.rowIs YB 4 n (fun i => .bool (F i)) := cy.resolve_left (by omega)
    rcases Nat.eq_zero_or_pos k with hk0 | hk0
    · subst hk0
      refine (keep_empty lo G n _ _ z (fun t => L ((pick (has (nat P) 0) n).getD t 0)) w (by omega) hn2 g hl4).mono ?_
      rintro e w' ⟨h1, h2, h3⟩
      refine ⟨h1, h2, fun h => by omega, fun _ => ?_⟩
      have e1 : pick (has (nat P) 0) n = [] := pick_none fun v _ => by simp [has, lst]
      have e2 : pick F n = [] := pick_none fun v hv => (d.absent v hv (fun j hj => by omega)).2
      rw [e1] at h3
      rw [e1, e2]
      exact h3
    · have n5 := hk hk0
      obtain ⟨rfl, rZ⟩ : z = some ⟨ZB, 0, none⟩ ∧ w.rowIs ZB 21 k (fun i => .int .i32 (P i)) := cz.resolve_left (by omega)
      have pre : Pre w G XB YB ZB n k L F (nat P) := ⟨g, rX, rY, rZ.congr fun i hi => by rw [d.eq hi]⟩
      by_cases hd : n ≤ 2 * k
      · refine (keep_dense lo G XB YB ZB n k L F (nat P) w h0 hn2 hk2 (by omega) pre (fun j hj => d.lt hj) (forks_eq (fun i j h hj => d.ne h hj) (fun j hj => d.lt hj) (fun v hv hF => d.fork hv hF)) hl1 hl2 hl3 hl4 n1 n2).mono ?_
        rintro e w' ⟨h1, h2, h3⟩
        exact ⟨h1, h2, fun _ => h3, fun h => absurd hd h⟩
      · refine (keep_sparse lo G XB YB ZB n k L F (nat P) w h0 hn2 hk2 (by omega) (by omega) pre (fun j hj => d.lt hj) (fun i j h hj => d.ne h hj) (fun v hv hF => d.fork hv hF) hl1 hl2 hl3 hl4 n1 n2 n5 n3 n4).mono ?_
        rintro e w' ⟨h1, h2, h3⟩
        exact ⟨h1, h2, fun h => absurd h hd, fun _ => h3⟩
theorem keep_any (lo G XB YB ZB n k : Nat) (x y z : Option Addr) (L : Nat → Int) (F : Nat → Bool) (P : Nat → Int) (w : World) (hn2 : n ≤ 65536) (hk2 : k ≤ 65536)
    (g : GAt w G (.slice x n n) (.slice y n n) (.slice z k k)) (cx : n = 0 ∨ x = some ⟨XB, 0, none⟩ ∧ w.rowIs XB 21 n (fun i => .int .i32 (L i))) (cy : n = 0 ∨ y = some ⟨YB, 0, none⟩ ∧ w.rowIs YB 4 n (fun i => .bool (F i)))
    (cz : k = 0 ∨ z = some ⟨ZB, 0, none⟩ ∧ w.rowIs ZB 21 k (fun i => .int .i32 (P i))) (d : Dom n k L F P) (hl1 : lo ≤ XB) (hl2 : lo ≤ YB) (hl3 : lo ≤ ZB) (hl4 : lo ≤ G)
    (hn : 0 < n → XB ≠ G ∧ YB ≠ G ∧ XB ≠ ZB ∧ YB ≠ ZB) (hk : 0 < k → ZB ≠ G) :
    Calls Try.prog 10 #[.pointer (some ⟨G, 0, none⟩)] w fun e w' => e = .returned (.tuple #[]) ∧ Below lo w w' ∧ KeptAny lo G n k L F (nat P) w' := by
  have h18 := keep18 lo G XB YB ZB n k x y z L F P w hn2 hk2 g cx cy cz d hl1 hl2 hl3 hl4 hn hk
  clear g cx cy cz d
  go_enter Try.func10, Try.ntmps10
  go_wp2_with (go_at_call 18; refine h18.mono ?_; rintro e w' ⟨rfl, q1, q2⟩)
  go_end0
  exact ⟨rfl, q1, q2⟩
end Go.Proofs.Qxb6608693a

import Derived.Test.Qxb6608693aClone
namespace Go.Proofs.Qxb6608693a
open Go.RowKit Go.Deep
set_option linter.unusedVariables false

/-- the draft's invariant -/
structure Dom (n k : Nat) (L : Nat → Int) (F : Nat → Bool) (P : Nat → Int) : Prop where
  range : ∀ j, j < k → 0 ≤ P j ∧ P j < n
  dist : ∀ i j, i < j → j < k → P i ≠ P j
  absent : ∀ v, v < n → (∀ j, j < k → P j ≠ (v : Int)) → L v = -1 ∧ F v = false

/-- the marks behind j entries -/
structure Marks (w : World) (B n j : Nat) (P : Nat → Int) (M : Nat → Bool) : Prop where
  row : w.rowIs B 4 n (fun v => .bool (M v))
  from_ : ∀ v, v < n → M v = true → ∃ i, i < j ∧ P i = (v : Int)
  in_ : ∀ i, i < j → 0 ≤ P i ∧ P i < n ∧ M (P i).toNat = true
  dist : ∀ i i', i < i' → i' < j → P i ≠ P i'
theorem Marks.mark {w : World} {B n j u : Nat} {P : Nat → Int} {M : Nat → Bool} (h : Marks w B n j P M) (hu : u < n) (hp : P j = (u : Int)) (hM : M u = false) :
    Marks (w.setCell ⟨B, u, none⟩ (.bool true)) B n (j + 1) P (fun v => if v = u then true else M v) := by
  refine ⟨(h.row.set u (.bool true)).congr fun v hv => ?_, fun v hv h1 => ?_, fun i hi => ?_, fun i i' h1 h2 => ?_⟩
  · by_cases e : v = u <;> simp [e]
  · by_cases e : v = u
    · subst e; exact ⟨j, by omega, hp⟩
    · simp [e] at h1
      obtain ⟨i, hi, hv2⟩ := h.from_ v hv h1
      exact ⟨i, by omega, hv2⟩
  · by_cases e : i = j
    · subst e; rw [hp]; exact ⟨by omega, by omega, by simp⟩
    · obtain ⟨a1, a2, a3⟩ := h.in_ i (by omega)
      refine ⟨a1, a2, ?_⟩
      by_cases e2 : (P i).toNat = u <;> simp [e2]
      rw [a3]
  · by_cases e : i' = j
    · subst e
      intro h3
      have := (h.in_ i h1).2.2
      rw [h3, hp] at this
      simp [hM] at this
    · exact h.dist i i' h1 (by omega)

/-- it returns a bool, of which Q holds -/
def BoolEnd (e : Ending) (Q : Bool → Prop) : Prop := ∃ t : Bool, e = .returned (.bool t) ∧ Q t

set_option maxHeartbeats 2000000 in
theorem dom_any (a0 a1 a2 : Option Addr) (n c0 nf c1 k c2 : Nat) (L : Nat → Int) (F : Nat → Bool) (P : Nat → Int) (w : World) (hn : n ≤ 65536) (hnf : nf ≤ 65536) (hk : k ≤ 65536)
    (h0 : Rd w a0 n (fun i => .int .i32 (L i))) (h1 : Rd w a1 nf (fun i => .bool (F i))) (h2 : Rd w a2 k (fun i => .int .i32 (P i))) (hP : ∀ j, j < k → -2147483648 ≤ P j ∧ P j ≤ 2147483647) :
    Calls Try.prog 6 #[.slice a0 n c0, .slice a1 nf c1, .slice a2 k c2] w fun e w' => BoolEnd e (fun t => t = true → nf = n ∧ Dom n k L F P) ∧ Below w.heap.size w w' := by
  have hmk := run_make_row' (P := Try.prog) 23 4 (.bool false) 1 Try.underlying23 Try.info4 rfl .i64 .i64 n (by omega) (by omega)
  have H0 : Hid (Rd w a0 n (fun i => .int .i32 (L i))) := h0
  have H1 : Hid (Rd w a1 nf (fun i => .bool (F i))) := h1
  have H2 : Hid (Rd w a2 k (fun i => .int .i32 (P i))) := h2
  have HP : Hid (∀ j, j < k → -2147483648 ≤ P j ∧ P j ≤ 2147483647) := hP
  clear h0 h1 h2 hP
  by_cases hne : nf = n
  · subst hne
    have tne : ((nf : Int) != (nf : Int)) = false := by simp
    go_enter Try.func6, Try.ntmps6
    go_wp2_with fail
    clear hmk
    go_loopw [9] (fun vj wr => ∃ (j : Nat) (M : Nat → Bool), j ≤ k ∧ vj = .int .i64 j ∧ Hid (Below w.heap.size w wr ∧ Marks wr w.heap.size nf j P M)) (fun vj _ => k - (intOf vj).toNat)
    case atStart => exact ⟨0, fun _ => false, Nat.zero_le _, rfl, (Below.refl _ _).alloc (Nat.le_refl _) _, World.rowIs_made _ _ _ _, fun v _ h => by simp at h, fun i h => by omega, fun i i' _ h => by omega⟩
    case round =>
      obtain ⟨j, M, hj, rfl, K⟩ := hrel
      by_cases hlt : j < k
      · obtain ⟨b, off, ea, hcell⟩ : ∃ b off, a2 = some ⟨b, off, none⟩ ∧ ∀ i, i < k → w.cell? ⟨b, off + i, none⟩ = some (.int .i32 (P i)) := by
          rcases H2.out with h | h
          · omega
          · exact h
        subst ea
        have hr := (K.out.1.cell (p := ⟨b, off + j, none⟩) (cell_lt (hcell j hlt))).trans (hcell j hlt)
        obtain ⟨p, hp⟩ : ∃ p, p = P j := ⟨_, rfl⟩
        rw [← hp] at hr
        have HPJ : Hid (p = P j) := hp
        have hb := HP.out j hlt
        rw [← hp] at hb
        obtain ⟨hb1, hb2⟩ := hb
        clear hcell hp
        by_cases hneg : p < 0
        · go_wp2_with fail
          go_ret
          exact ⟨⟨false, rfl, fun h => by cases h⟩, K.out.1⟩
        · obtain ⟨u, rfl⟩ := Int.eq_ofNat_of_zero_le (show 0 ≤ p by omega)
          by_cases hge : nf ≤ u
          · have hge' : (nf : Int) ≤ (u : Int) := by omega
            go_wp2_with fail
            go_ret
            exact ⟨⟨false, rfl, fun h => by cases h⟩, K.out.1⟩
          · have hm := K.out.2.row.cell (i := u) (by omega)
            have hf := K.out.2.row.frozen u
            cases hM : M u with
            | true =>
              rw [hM] at hm
              clear hM
              go_wp2_with fail
              go_ret
              exact ⟨⟨false, rfl, fun h => by cases h⟩, K.out.1⟩
            | false =>
              rw [hM] at hm
              have HM : Hid (M u = false) := hM
              clear hM
              go_wp2_with fail
              go_roundw
              case rel => exact ⟨j + 1, _, by omega, by go_num, K.out.1.setCell (Nat.le_refl _) _, K.out.2.mark (by omega) HPJ.out.symm HM.out⟩
              case measure => simp [intOf]; omega
      · have K2 : Hid (Marks wr w.heap.size nf k P M) := by
          obtain rfl : j = k := by omega
          exact K.out.2
        go_wp2_with fail
        go_loopw [11] (fun vv wr2 => ∃ v : Nat, v ≤ nf ∧ vv = .int .i64 v ∧ wr2 = wr ∧ Hid (∀ u, u < v → M u = false → L u = -1 ∧ F u = false)) (fun vv _ => nf - (intOf vv).toNat)
        case atStart => exact ⟨0, Nat.zero_le _, rfl, rfl, fun u hu => by omega⟩
        case round =>
          obtain ⟨v, hv, rfl, rfl, KL⟩ := hrel
          by_cases hvn : v < nf
          · obtain ⟨b0, o0, e0, hc0⟩ : ∃ b off, a0 = some ⟨b, off, none⟩ ∧ ∀ i, i < nf → w.cell? ⟨b, off + i, none⟩ = some (.int .i32 (L i)) := by
              rcases H0.out with h | h
              · omega
              · exact h
            obtain ⟨b1, o1, e1, hc1⟩ : ∃ b off, a1 = some ⟨b, off, none⟩ ∧ ∀ i, i < nf → w.cell? ⟨b, off + i, none⟩ = some (.bool (F i)) := by
              rcases H1.out with h | h
              · omega
              · exact h
            subst e0
            subst e1
            have r0 := (K.out.1.cell (p := ⟨b0, o0 + v, none⟩) (cell_lt (hc0 v hvn))).trans (hc0 v hvn)
            have r1 := (K.out.1.cell (p := ⟨b1, o1 + v, none⟩) (cell_lt (hc1 v hvn))).trans (hc1 v hvn)
            have r2 := K2.out.row.cell (i := v) hvn
            clear hc0 hc1
            cases hM : M v with
            | true =>
              rw [hM] at r2
              have HM : Hid (M v = true) := hM
              clear hM r0 r1
              go_wp2_with fail
              go_roundw
              case rel => exact ⟨v + 1, by omega, by go_num, by trivial, fun u hu hMu => by
                by_cases e : u = v
                · subst e; exact absurd hMu (by rw [HM.out]; simp)
                · exact KL.out u (by omega) hMu⟩
              case measure => simp [intOf]; omega
            | false =>
              rw [hM] at r2
              clear hM
              by_cases hL : L v = -1
              · have HL : Hid (L v = -1) := hL
                rw [hL] at r0
                clear hL
                cases hF : F v with
                | true =>
                  rw [hF] at r1
                  clear hF
                  go_wp2_with fail
                  go_ret
                  exact ⟨⟨false, rfl, fun h => by cases h⟩, K.out.1⟩
                | false =>
                  rw [hF] at r1
                  have HF : Hid (F v = false) := hF
                  clear hF
                  go_wp2_with fail
                  go_roundw
                  case rel => exact ⟨v + 1, by omega, by go_num, by trivial, fun u hu hMu => by
                    by_cases e : u = v
                    · subst e; exact ⟨HL.out, HF.out⟩
                    · exact KL.out u (by omega) hMu⟩
                  case measure => simp [intOf]; omega
              · have hL' : (L v != -1) = true := by simpa using hL
                clear hL
                go_wp2_with fail
                go_ret
                exact ⟨⟨false, rfl, fun h => by cases h⟩, K.out.1⟩
          · go_wp2_with fail
            go_ret
            have ev : v = nf := by omega
            subst ev
            refine ⟨⟨true, rfl, fun _ => ⟨by trivial, ⟨fun j hj => ⟨(K2.out.in_ j hj).1, (K2.out.in_ j hj).2.1⟩, K2.out.dist, fun u hu hall => ?_⟩⟩⟩, K.out.1⟩
            refine KL.out u hu ?_
            cases hMu : M u with
            | false => rfl
            | true =>
              obtain ⟨i, hi, e⟩ := K2.out.from_ u hu hMu
              exact absurd e (hall i hi)
  · have tne : ((nf : Int) != (n : Int)) = true := by simp; omega
    clear hmk
    go_enter Try.func6, Try.ntmps6
    go_wp2_with fail
    go_ret
    exact ⟨⟨false, rfl, fun h => by cases h⟩, Below.refl _ _⟩
end Go.Proofs.Qxb6608693a

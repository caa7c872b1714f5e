/-
  A PROOF OF 'Rows.FnExpiredAtFromItsInstantOnSaid'. The frame is the shell's (proof-skeleton.mjs); the walk stands on the contracts of time.Add, IsZero, Before and Grant.ExpiredAt.
-/
import Derived.Test.Qxb6605998aExpired
import Derived.ProofKit
import Derived.OpenShut
import Derived.ShutString
namespace Go.Proofs.Qxb6605998a.fnExpiredAtFromItsInstantOn
open Go.ChangeShapes Go.WideShapes Go.ChangeAt Go.RowKit
open Go.ChangeMaps (open_string shut_string)
set_option linter.unusedVariables false

theorem own : ownKnob Try.prog.godebug = none := by kernel_rfl

set_option maxHeartbeats 400000 in
theorem at_any (d : Int) (d0 : -9223372036854775808 ≤ d) (d1 : d ≤ 9223372036854775807) (w : World) :
    Calls Try.prog 11 #[.int .i64 d] w fun e w' => ∃ n s, (e = .returned (.agg #[.int .u64 n, .int .i64 s, .pointer none]) ∧ 0 ≤ n ∧ n < 1000000000 ∧ s * 1000000000 + n = d) ∧ Below w.heap.size w w' ∧ Grown w w' := by
  have A : Hid (∀ w, Calls Try.prog 15 #[.agg #[.int .u64 0, .int .i64 0, .pointer none], .int .i64 d] w fun e w' => ∃ n' s', (e = .returned (.agg #[.int .u64 n', .int .i64 s', .pointer none]) ∧ 0 ≤ n' ∧ n' < 1000000000 ∧ s' * 1000000000 + n' = 0 * 1000000000 + 0 + d) ∧ ∃ x y, w' = (w.alloc (.cells x 38)).alloc (.cells y 38)) := fun w => add_any 0 0 d (by omega) (by omega) (by omega) (by omega) d0 d1 w
  clear d0 d1
  go_enter Try.func11, Try.ntmps11
  go_wp2_with (go_at_call 15; refine (A.out _).mono ?_; rintro e w' ⟨n, s, ⟨rfl, h0, h1, h2⟩, x, y, rfl⟩; have H : Hid _ := h2; clear h2)
  have h2 := H.out
  simp [bodyPost, results, Try.results11, go_sem]
  exact ⟨⟨n, s, ⟨rfl, rfl⟩, h0, h1, by omega⟩, (((Below.refl _ _).alloc (Nat.le_refl _) _).alloc (by simp) _).alloc (by simp; omega) _, (((Grown.refl _).alloc _ _).alloc _ _).alloc _ _⟩
set_option maxHeartbeats 400000 in
theorem sum_any (d f : Int) (d0 : -9223372036854775808 ≤ d) (d1 : d ≤ 9223372036854775807) (f0 : -9223372036854775808 ≤ f) (f1 : f ≤ 9223372036854775807) (w : World) :
    Calls Try.prog 13 #[.int .i64 d, .int .i64 f] w fun e w' => ∃ n s, (e = .returned (.agg #[.int .u64 n, .int .i64 s, .pointer none]) ∧ 0 ≤ n ∧ n < 1000000000 ∧ s * 1000000000 + n = d + f) ∧ Below w.heap.size w w' ∧ Grown w w' := by
  have A : Hid (∀ w, Calls Try.prog 15 #[.agg #[.int .u64 0, .int .i64 0, .pointer none], .int .i64 d] w fun e w' => ∃ n' s', (e = .returned (.agg #[.int .u64 n', .int .i64 s', .pointer none]) ∧ 0 ≤ n' ∧ n' < 1000000000 ∧ s' * 1000000000 + n' = 0 * 1000000000 + 0 + d) ∧ ∃ x y, w' = (w.alloc (.cells x 38)).alloc (.cells y 38)) := fun w => add_any 0 0 d (by omega) (by omega) (by omega) (by omega) d0 d1 w
  have D : Hid (-9223372036854775808 ≤ d ∧ d ≤ 9223372036854775807 ∧ -9223372036854775808 ≤ f ∧ f ≤ 9223372036854775807) := ⟨d0, d1, f0, f1⟩
  clear d0 d1 f0 f1
  go_enter Try.func13, Try.ntmps13
  go_wp2_with fail
  refine (A.out _).mono ?_
  rintro e w' ⟨n, s, ⟨rfl, h0, h1, h2⟩, x, y, rfl⟩
  have B : Hid (∀ w, Calls Try.prog 15 #[.agg #[.int .u64 n, .int .i64 s, .pointer none], .int .i64 f] w fun e w' => ∃ n' s', (e = .returned (.agg #[.int .u64 n', .int .i64 s', .pointer none]) ∧ 0 ≤ n' ∧ n' < 1000000000 ∧ s' * 1000000000 + n' = d + f) ∧ ∃ x y, w' = (w.alloc (.cells x 38)).alloc (.cells y 38)) := by
    intro w
    have D := D.out
    refine (add_any n s f h0 h1 (by omega) (by omega) (by omega) (by omega) w).mono ?_
    rintro e w' ⟨n', s', ⟨rfl, h0', h1', h2'⟩, hw⟩
    exact ⟨n', s', ⟨rfl, h0', h1', by omega⟩, hw⟩
  clear h0 h1 h2
  go_wp2_with fail
  refine (B.out _).mono ?_
  rintro e w' ⟨m, t, ⟨rfl, h0, h1, h2⟩, u, v, rfl⟩
  have H : Hid _ := h2
  clear h2
  go_wp2
  simp [bodyPost, results, Try.results13, go_sem]
  exact ⟨⟨m, t, ⟨rfl, rfl⟩, h0, h1, H.out⟩, (((((Below.refl _ _).alloc (Nat.le_refl _) _).alloc (by simp) _).alloc (by simp; omega) _).alloc (by simp; omega) _).alloc (by simp; omega) _, (((((Grown.refl _).alloc _ _).alloc _ _).alloc _ _).alloc _ _).alloc _ _⟩

/-- Block g holds a grant whose expiry is (m, t). -/
structure Has (g : Nat) (m t : Int) (w : World) : Prop where
  lt : g < w.heap.size
  c0 : w.cell? ⟨g, 3, none⟩ = some (.int .u64 m)
  c1 : w.cell? ⟨g, 4, none⟩ = some (.int .i64 t)
  c2 : w.cell? ⟨g, 5, none⟩ = some (.pointer none)
theorem Has.later {g : Nat} {m t : Int} {w w' : World} (h : Has g m t w) (hb : Below w.heap.size w w') : Has g m t w' :=
  ⟨Nat.lt_of_lt_of_le h.lt hb.size, (hb.cell (p := ⟨g, 3, none⟩) h.lt).trans h.c0, (hb.cell (p := ⟨g, 4, none⟩) h.lt).trans h.c1, (hb.cell (p := ⟨g, 5, none⟩) h.lt).trans h.c2⟩
theorem grown_trans {a b c : World} (h : Grown a b) (k : Grown b c) : Grown a c :=
  ⟨World.keptBut_trans h.1 k.1, fun x => (k.2.1 x).trans (h.2.1 x), Nat.le_trans h.2.2 k.2.2⟩

theorem exp_any (g : Nat) (n s m t D x : Int) (b : Bool) (w : World) (hg : Has g m t w) (n0 : 0 ≤ n) (n1 : n < 1000000000) (m0 : 0 ≤ m) (m1 : m < 1000000000)
    (hD : t * 1000000000 + m = D) (hx : s * 1000000000 + n = x) (hb : b = (decide (D ≠ 0) && decide (D ≤ x))) :
    Calls Try.prog 12 #[.pointer (some ⟨g, 0, none⟩), .agg #[.int .u64 n, .int .i64 s, .pointer none]] w fun e w' => e = .returned (.bool b) ∧ Below w.heap.size w w' ∧ Grown w w' := by
  by_cases hz : m ≠ 0 ∨ t ≠ 0
  · have e : b = !(decide (s * 1000000000 + n < t * 1000000000 + m)) := by
      rw [hb, hD, hx]
      have : D ≠ 0 := by omega
      by_cases h : D ≤ x
      · have h' : ¬ x < D := by omega
        simp [this, h, h']
      · have h' : x < D := by omega
        simp [h, h']
    rw [e]
    exact exp_some g n s m t _ w hg.lt hg.c0 hg.c1 hg.c2 hz n0 n1 m0 m1 rfl
  · obtain ⟨rfl, rfl⟩ : m = 0 ∧ t = 0 := by omega
    have e : b = false := by
      rw [hb]
      have : D = 0 := by omega
      simp [this]
    rw [e]
    exact exp_zero g n s w hg.lt hg.c0 hg.c1 hg.c2

theorem has_new (w : World) (a0 a1 a2 a6 a7 : Value) (m t : Int) : Has w.heap.size m t (w.alloc (.cells #[a0, a1, a2, .int .u64 m, .int .i64 t, .pointer none, a6, a7] 43)) :=
  ⟨by simp, by simp [go_sem], by simp [go_sem], by simp [go_sem]⟩

set_option maxHeartbeats 1000000 in
theorem walk_some (a0 : Int) (d0 : -9223372036854775808 < a0) (d1 : a0 ≤ 9223372036854775807) (hz : (a0 == 0) = false) (hz1 : a0 ≠ 0) (hm : (a0 == -9223372036854775808) = false) (w : World) :
    Calls Try.prog 5 #[.int .i64 a0] w fun e w' => e = .returned (.bool true) ∧ Grown w w' := by
  go_enter Try.func5, Try.ntmps5
  go_wp2_with fail
  refine (at_any a0 (by omega) (by omega) _).mono ?_
  rintro e w1 ⟨m, t, ⟨rfl, m0, m1, hd⟩, hb1, hg1⟩
  have D : Hid (t * 1000000000 + m = a0) := hd
  have G1 : Hid (Grown w w1) := hg1
  clear hd hg1 hb1
  go_wp2_with fail
  refine (at_any a0 (by omega) (by omega) _).mono ?_
  rintro e w2 ⟨n2, s2, ⟨rfl, p2, q2, hx2⟩, hb2, hg2⟩
  have H2 : Hid (Has w1.heap.size m t w2) := (has_new w1 _ _ _ _ _ m t).later hb2
  have X2 : Hid (s2 * 1000000000 + n2 = a0) := hx2
  have G2 : Hid (Grown _ w2) := hg2
  clear hb2 hg2 hx2
  go_wp2_with fail
  refine (exp_any w1.heap.size n2 s2 m t a0 (a0) true _ H2.out p2 q2 m0 m1 D.out X2.out (by simp; omega)).mono ?_
  rintro e v2 ⟨rfl, hb2, hg2⟩
  have E2 : Hid (Has w1.heap.size m t v2) := H2.out.later hb2
  have F2 : Hid (Grown _ v2) := hg2
  clear hb2 hg2
  go_wp2_with fail
  refine (at_any (a0 - 1) (by omega) (by omega) _).mono ?_
  rintro e w3 ⟨n3, s3, ⟨rfl, p3, q3, hx3⟩, hb3, hg3⟩
  have H3 : Hid (Has w1.heap.size m t w3) := E2.out.later hb3
  have X3 : Hid (s3 * 1000000000 + n3 = a0 - 1) := hx3
  have G3 : Hid (Grown _ w3) := hg3
  clear hb3 hg3 hx3
  go_wp2_with fail
  refine (exp_any w1.heap.size n3 s3 m t a0 (a0 - 1) false _ H3.out p3 q3 m0 m1 D.out X3.out (by simp; omega)).mono ?_
  rintro e v3 ⟨rfl, hb3, hg3⟩
  have E3 : Hid (Has w1.heap.size m t v3) := H3.out.later hb3
  have F3 : Hid (Grown _ v3) := hg3
  clear hb3 hg3
  go_wp2_with fail
  refine (sum_any 9223372036854775807 9223372036854775807 (by omega) (by omega) (by omega) (by omega) _).mono ?_
  rintro e w4 ⟨n4, s4, ⟨rfl, p4, q4, hx4⟩, hb4, hg4⟩
  have H4 : Hid (Has w1.heap.size m t w4) := E3.out.later hb4
  have X4 : Hid (s4 * 1000000000 + n4 = 9223372036854775807 + 9223372036854775807) := hx4
  have G4 : Hid (Grown _ w4) := hg4
  clear hb4 hg4 hx4
  go_wp2_with fail
  refine (exp_any w1.heap.size n4 s4 m t a0 (9223372036854775807 + 9223372036854775807) true _ H4.out p4 q4 m0 m1 D.out X4.out (by simp; omega)).mono ?_
  rintro e v4 ⟨rfl, hb4, hg4⟩
  have E4 : Hid (Has w1.heap.size m t v4) := H4.out.later hb4
  have F4 : Hid (Grown _ v4) := hg4
  clear hb4 hg4
  go_wp2_with fail
  refine (sum_any (-9223372036854775808) (-9223372036854775808) (by omega) (by omega) (by omega) (by omega) _).mono ?_
  rintro e w5 ⟨n5, s5, ⟨rfl, p5, q5, hx5⟩, hb5, hg5⟩
  have H5 : Hid (Has w1.heap.size m t w5) := E4.out.later hb5
  have X5 : Hid (s5 * 1000000000 + n5 = -9223372036854775808 + -9223372036854775808) := hx5
  have G5 : Hid (Grown _ w5) := hg5
  clear hb5 hg5 hx5
  go_wp2_with fail
  refine (exp_any w1.heap.size n5 s5 m t a0 (-9223372036854775808 + -9223372036854775808) false _ H5.out p5 q5 m0 m1 D.out X5.out (by simp; omega)).mono ?_
  rintro e v5 ⟨rfl, hb5, hg5⟩
  have E5 : Hid (Has w1.heap.size m t v5) := H5.out.later hb5
  have F5 : Hid (Grown _ v5) := hg5
  clear hb5 hg5
  go_wp2
  go_ret
  refine ⟨rfl, ?_⟩
  have g2 := grown_trans G2.out F2.out
  have g3 := grown_trans (grown_trans g2 G3.out) F3.out
  have g4 := grown_trans (grown_trans g3 G4.out) F4.out
  have g5 := grown_trans (grown_trans g4 G5.out) F5.out
  exact grown_trans (G1.out.alloc _ _) g5
set_option maxHeartbeats 1000000 in
theorem walk_zero  (w : World) :
    Calls Try.prog 5 #[.int .i64 0] w fun e w' => e = .returned (.bool true) ∧ Grown w w' := by
  go_enter Try.func5, Try.ntmps5
  go_wp2_with fail
  refine (at_any 0 (by omega) (by omega) _).mono ?_
  rintro e w1 ⟨m, t, ⟨rfl, m0, m1, hd⟩, hb1, hg1⟩
  have D : Hid (t * 1000000000 + m = 0) := hd
  have G1 : Hid (Grown w w1) := hg1
  clear hd hg1 hb1
  go_wp2_with fail
  refine (at_any 0 (by omega) (by omega) _).mono ?_
  rintro e w2 ⟨n2, s2, ⟨rfl, p2, q2, hx2⟩, hb2, hg2⟩
  have H2 : Hid (Has w1.heap.size m t w2) := (has_new w1 _ _ _ _ _ m t).later hb2
  have X2 : Hid (s2 * 1000000000 + n2 = 0) := hx2
  have G2 : Hid (Grown _ w2) := hg2
  clear hb2 hg2 hx2
  go_wp2_with fail
  refine (exp_any w1.heap.size n2 s2 m t 0 (0) false _ H2.out p2 q2 m0 m1 D.out X2.out (by simp)).mono ?_
  rintro e v2 ⟨rfl, hb2, hg2⟩
  have E2 : Hid (Has w1.heap.size m t v2) := H2.out.later hb2
  have F2 : Hid (Grown _ v2) := hg2
  clear hb2 hg2
  go_wp2_with fail
  refine (at_any (-1) (by omega) (by omega) _).mono ?_
  rintro e w3 ⟨n3, s3, ⟨rfl, p3, q3, hx3⟩, hb3, hg3⟩
  have H3 : Hid (Has w1.heap.size m t w3) := E2.out.later hb3
  have X3 : Hid (s3 * 1000000000 + n3 = -1) := hx3
  have G3 : Hid (Grown _ w3) := hg3
  clear hb3 hg3 hx3
  go_wp2_with fail
  refine (exp_any w1.heap.size n3 s3 m t 0 (-1) false _ H3.out p3 q3 m0 m1 D.out X3.out (by simp)).mono ?_
  rintro e v3 ⟨rfl, hb3, hg3⟩
  have E3 : Hid (Has w1.heap.size m t v3) := H3.out.later hb3
  have F3 : Hid (Grown _ v3) := hg3
  clear hb3 hg3
  go_wp2_with fail
  refine (sum_any 9223372036854775807 9223372036854775807 (by omega) (by omega) (by omega) (by omega) _).mono ?_
  rintro e w4 ⟨n4, s4, ⟨rfl, p4, q4, hx4⟩, hb4, hg4⟩
  have H4 : Hid (Has w1.heap.size m t w4) := E3.out.later hb4
  have X4 : Hid (s4 * 1000000000 + n4 = 9223372036854775807 + 9223372036854775807) := hx4
  have G4 : Hid (Grown _ w4) := hg4
  clear hb4 hg4 hx4
  go_wp2_with fail
  refine (exp_any w1.heap.size n4 s4 m t 0 (9223372036854775807 + 9223372036854775807) false _ H4.out p4 q4 m0 m1 D.out X4.out (by simp)).mono ?_
  rintro e v4 ⟨rfl, hb4, hg4⟩
  have E4 : Hid (Has w1.heap.size m t v4) := H4.out.later hb4
  have F4 : Hid (Grown _ v4) := hg4
  clear hb4 hg4
  go_wp2_with fail
  refine (sum_any (-9223372036854775808) (-9223372036854775808) (by omega) (by omega) (by omega) (by omega) _).mono ?_
  rintro e w5 ⟨n5, s5, ⟨rfl, p5, q5, hx5⟩, hb5, hg5⟩
  have H5 : Hid (Has w1.heap.size m t w5) := E4.out.later hb5
  have X5 : Hid (s5 * 1000000000 + n5 = -9223372036854775808 + -9223372036854775808) := hx5
  have G5 : Hid (Grown _ w5) := hg5
  clear hb5 hg5 hx5
  go_wp2_with fail
  refine (exp_any w1.heap.size n5 s5 m t 0 (-9223372036854775808 + -9223372036854775808) false _ H5.out p5 q5 m0 m1 D.out X5.out (by simp)).mono ?_
  rintro e v5 ⟨rfl, hb5, hg5⟩
  have E5 : Hid (Has w1.heap.size m t v5) := H5.out.later hb5
  have F5 : Hid (Grown _ v5) := hg5
  clear hb5 hg5
  go_wp2
  go_ret
  refine ⟨rfl, ?_⟩
  have g2 := grown_trans G2.out F2.out
  have g3 := grown_trans (grown_trans g2 G3.out) F3.out
  have g4 := grown_trans (grown_trans g3 G4.out) F4.out
  have g5 := grown_trans (grown_trans g4 G5.out) F5.out
  exact grown_trans (G1.out.alloc _ _) g5
theorem walk_min (w : World) : Calls Try.prog 5 #[.int .i64 (-9223372036854775808)] w fun e w' => e = .returned (.bool true) ∧ Grown w w' := by
  go_enter Try.func5, Try.ntmps5
  go_wp2
  go_ret
  exact ⟨rfl, Grown.refl _⟩

theorem walk (a0 : Int) (w0 : (Lit.int .i64 a0).wf = true) (w : World) :
    Calls Try.prog 5 #[.int .i64 a0] w fun e w' => e = .returned (.bool true) ∧ Grown w w' := by
  have hbd := bounds_i64 w0
  by_cases h1 : a0 = -9223372036854775808
  · subst h1
    exact walk_min w
  · by_cases h2 : a0 = 0
    · subst h2
      exact walk_zero w
    · exact walk_some a0 (by omega) (by omega) (by simpa using h2) h2 (by simpa using h1) w

/-! ### THE ROW's STEP: WRITTEN OUT: LEAVE IT -/
set_option maxRecDepth 100000 in
theorem lifted (os : Os) (started : os.Started) (H : Type) (enc : TypeId × Value → H) :
    ReturnsInHanded {} Try.checked os 5 .any (Rows.fnExpiredAtFromItsInstantOnSpec.pre6 enc Try.prog Try.f5 Rows.fnExpiredAtFromItsInstantOnRow.domain false) (Rows.fnExpiredAtFromItsInstantOnSpec.post enc Try.prog Try.f5 false true false false) := by
  refine returnsInHanded_of_change (C := Try.checked) own started (by kernel_rfl) Try.func5
    (ChangeSpec.witness6 (enc := enc) (C := Try.checked) false ⟨#[], #[.int .i64 0], []⟩ 8 (by kernel_rfl) (by kernel_rfl) (by kernel_rfl) (by kernel_rfl)) ?_
  intro W base args ds gs before hval0 hW hcnd _
  have hval : ∀ (j : Nat) t v, Try.f5.params[j]? = some t → args[j]? = some v → Value.okWide Try.prog W .any base t v := hval0
  have hW' := hW
  obtain ⟨p, q, hA0, hV, rfl, hfz, hnd⟩ := hW
  have hA : DataW.TrodAll enc Try.prog W 0 (fun _ => true) true Try.f5.params.toList args.toList ds p := hA0
  rw [Try.params5] at hA hval
  obtain ⟨v0, vs0, d0, ds0, p0, q0, hargs, rfl, rfl, h0, r0⟩ := trodAll_cons hA
  obtain ⟨rfl, rfl, rfl⟩ := trodAll_nil r0
  obtain rfl : args = #[v0] := by cases args; simp_all
  obtain ⟨rfl, rfl⟩ := trodVars_none hV
  obtain ⟨a0, rfl, rfl, rfl, w0⟩ := open_int Try.underlying2 (hval 0 2 v0 rfl rfl) h0
  clear hA0 hval0
  simp only [List.append_nil] at hW'
  refine (walk a0 w0 W).mono fun e W' ⟨he, hg⟩ => ?_
  subst he
  exact ⟨_, rfl, post_of_same (pa := []) (pv := []) hW' (fun _ _ _ => (trodAll_cons_mk (shut_bool Try.underlying4 _) trodAll_mk0)) (fun sp _ => (trodAll_cons_mk (shut_int Try.underlying2 w0) trodAll_mk0)) (fun _ _ => rfl) rfl
    (hg.frame _) hg.2.1 (ok_one (by kernel_rfl) rfl (okWide_bool_mk Try.underlying4 _))⟩

theorem over : Rows.fnExpiredAtFromItsInstantOnRow.holds Try.pinned (OpenSpec.ofChange Rows.fnExpiredAtFromItsInstantOnSpec) :=
  OpenClaim.holds_of_wide 5 Try.f5 rfl rfl rfl rfl rfl rfl rfl ⟨rfl, rfl, rfl, rfl, rfl⟩ rfl rfl rfl rfl rfl (by kernel_rfl) Try.func5 (by kernel_rfl)
    (of_decide_eq_true (by kernel_rfl)) (by unfold Func.isWrapper; first | (rw [if_pos (by decide +kernel)]; kernel_rfl) | (rw [if_neg (by decide +kernel)]; exact ⟨rfl, rfl⟩))
    (fun os started H enc _ => lifted os started H enc)

/-- ████ THE STATEMENT ████ -/
theorem proved : Rows.FnExpiredAtFromItsInstantOnSaid :=
  over
end Go.Proofs.Qxb6605998a.fnExpiredAtFromItsInstantOn

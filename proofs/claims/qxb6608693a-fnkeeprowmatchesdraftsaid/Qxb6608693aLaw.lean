import Derived.Test.Qxb6608693aMade
namespace Go.Proofs.Qxb6608693a
open Go.RowKit Go.Deep Srt
set_option linter.unusedVariables false
set_option linter.unusedSimpArgs false

/-- a clone: n values v in a block of its own -/
def Cl (w : World) (x : Option Addr) (B : Nat) (e : TypeId) (n : Nat) (v : Nat → Value) : Prop := n = 0 ∨ x = some ⟨B, 0, none⟩ ∧ w.rowIs B e n v
theorem Cl.below {w w' : World} {x : Option Addr} {B : Nat} {e : TypeId} {n : Nat} {v : Nat → Value} (h : Cl w x B e n v) (b : Below w.heap.size w w') : Cl w' x B e n v := by
  rcases h with h | ⟨h1, h2⟩
  · exact Or.inl h
  · exact Or.inr ⟨h1, h2.of_block (b.block _ h2.lt)⟩
theorem Cl.rd {w : World} {x : Option Addr} {B : Nat} {e : TypeId} {n : Nat} {v : Nat → Value} (h : Cl w x B e n v) : Rd w x n v := by
  rcases h with h | ⟨h1, h2⟩
  · exact Or.inl h
  · exact Or.inr ⟨B, 0, h1, fun i hi => by rw [Nat.zero_add]; exact h2.cell hi⟩
theorem Cl.lt {w : World} {x : Option Addr} {B : Nat} {e : TypeId} {n : Nat} {v : Nat → Value} (h : Cl w x B e n v) (hn : 0 < n) : B < w.heap.size := by
  rcases h with h | ⟨h1, h2⟩
  · omega
  · exact h2.lt
/-- the heap is as it was -/
structure Same (w w' : World) : Prop where
  os : w'.os = w.os
  tape : w'.tape = w.tape
  output : w'.output = w.output
  heap : w'.heap = w.heap
theorem Same.refl (w : World) : Same w w := ⟨rfl, rfl, rfl, rfl⟩
theorem Same.drewN {w w' : World} (h : Same w w') (q : Nat) : Same w (w'.drewN q) := ⟨h.os, h.tape, h.output, h.heap⟩
theorem Same.rd {w w' : World} (h : Same w w') {a : Option Addr} {n : Nat} {v : Nat → Value} (r : Rd w a n v) : Rd w' a n v := by
  rcases r with r | ⟨b, o, e, r⟩
  · exact Or.inl r
  · exact Or.inr ⟨b, o, e, fun i hi => (World.cell?_of_block (a := ⟨b, o + i, none⟩) (by rw [h.heap])).trans (r i hi)⟩
theorem Same.below {w0 w w' : World} {B : Nat} (h : Same w w') (b : Below B w0 w) : Below B w0 w' := ⟨h.os.trans b.os, h.tape.trans b.tape, h.output.trans b.output, by rw [h.heap]; exact b.size, fun k hk => by rw [h.heap]; exact b.block k hk⟩
/-- what stands when the row is kept: the reference's clones, the row's slices -/
structure Held (w0 w : World) (n k : Nat) (L : Nat → Int) (F : Nat → Bool) (P : Nat → Int) (x y z : Option Addr) (nv nl f : Nat) (a0 a1 a2 : Option Addr) (V : Nat → Nat) (Lv : Nat → Int) : Prop where
  below : Below w0.heap.size w0 w
  lat : Rd w x n (fun i => .int .i32 (L i))
  frk : Rd w y n (fun i => .bool (F i))
  pre : Rd w z k (fun i => .int .i32 (P i))
  rv : Rd w a0 nv (fun t => .int .i32 (V t))
  rl : Rd w a1 nl (fun t => .int .i32 (Lv t))
  rf : Rd w a2 f (fun t => .int .i32 ((pick F n).getD t 0 : Nat))
theorem Held.same {w0 w w' : World} {n k : Nat} {L : Nat → Int} {F : Nat → Bool} {P : Nat → Int} {x y z : Option Addr} {nv nl f : Nat} {a0 a1 a2 : Option Addr} {V : Nat → Nat} {Lv : Nat → Int} (h : Held w0 w n k L F P x y z nv nl f a0 a1 a2 V Lv) (s : Same w w') :
    Held w0 w' n k L F P x y z nv nl f a0 a1 a2 V Lv := ⟨s.below h.below, s.rd h.lat, s.rd h.frk, s.rd h.pre, s.rd h.rv, s.rd h.rl, s.rd h.rf⟩

theorem first3 {w0 w2 wA wB wC : World} {n k : Nat} {L : Nat → Int} {F : Nat → Bool} {P : Nat → Int} {x y z : Option Addr} (h2 : Below w0.heap.size w0 w2)
    (bA : Below w2.heap.size w2 wA) (cA : Cl wA x w2.heap.size 21 n (fun i => .int .i32 (L i))) (bB : Below wA.heap.size wA wB) (cB : Cl wB y wA.heap.size 4 n (fun i => .bool (F i)))
    (bC : Below wB.heap.size wB wC) (cC : Cl wC z wB.heap.size 21 k (fun i => .int .i32 (P i))) :
    Below w0.heap.size w0 wC ∧ Rd wC x n (fun i => .int .i32 (L i)) ∧ Rd wC y n (fun i => .bool (F i)) ∧ Rd wC z k (fun i => .int .i32 (P i)) :=
  ⟨((h2.trans (bA.mono h2.size)).trans (bB.mono (Nat.le_trans h2.size bA.size))).trans (bC.mono (Nat.le_trans h2.size (Nat.le_trans bA.size bB.size))), ((cA.below bB).below bC).rd, (cB.below bC).rd, cC.rd⟩

theorem Held.grown {w0 w w' : World} {n k : Nat} {L : Nat → Int} {F : Nat → Bool} {P : Nat → Int} {x y z : Option Addr} {nv nl f : Nat} {a0 a1 a2 : Option Addr} {V : Nat → Nat} {Lv : Nat → Int} (h : Held w0 w n k L F P x y z nv nl f a0 a1 a2 V Lv) (s : Below w.heap.size w w') :
    Held w0 w' n k L F P x y z nv nl f a0 a1 a2 V Lv := ⟨h.below.trans (s.mono h.below.size), h.lat.below s, h.frk.below s, h.pre.below s, h.rv.below s, h.rl.below s, h.rf.below s⟩
theorem has_new {p : Nat → Nat} {j : Nat} (h : ∀ i, i < j → p i ≠ p j) : has p j (p j) = false := by
  cases e : has p j (p j) with
  | false => rfl
  | true =>
    obtain ⟨i, hi, h2⟩ := has_iff.1 e
    exact absurd h2 (h i hi)
theorem has_succ (p : Nat → Nat) (j v : Nat) : has p (j + 1) v = (decide (v = p j) || has p j v) := by
  simp [has, lst, List.range_succ, Bool.or_comm, eq_comm]
theorem count_next (p : Nat → Nat) (j v : Nat) : (if v = p j then Value.int .i64 1 else Value.int .i64 (if has p j v then 1 else 0)) = Value.int .i64 (if has p (j + 1) v then 1 else 0) := by
  rw [has_succ]
  by_cases e : v = p j <;> simp [e]
/-- the inner loop's state -/
def InRound (q F : Nat → Bool) (v c : Nat) (va vf : Value) : Prop :=
  (c = 0 ∧ va = .int .i64 (cnt q v) ∧ vf = .int .i64 (cnt F v)) ∨ (c = 1 ∧ q v = true ∧ va = .int .i64 (cnt q (v + 1)) ∧ vf = .int .i64 (cnt F (v + 1)))
theorem keep_call {w0 wC wX wY wZ wG : World} {n k : Nat} {L : Nat → Int} {F : Nat → Bool} {P : Nat → Int} {x y z x' y' z' : Option Addr}
    (hC : Below w0.heap.size w0 wC ∧ Rd wC x n (fun i => .int .i32 (L i)) ∧ Rd wC y n (fun i => .bool (F i)) ∧ Rd wC z k (fun i => .int .i32 (P i)))
    (bX : Below wC.heap.size wC wX) (cX : Cl wX x' wC.heap.size 21 n (fun i => .int .i32 (L i))) (bY : Below wX.heap.size wX wY) (cY : Cl wY y' wX.heap.size 4 n (fun i => .bool (F i)))
    (bZ : Below wY.heap.size wY wZ) (cZ : Cl wZ z' wY.heap.size 21 k (fun i => .int .i32 (P i))) (bG : Below wZ.heap.size wZ wG) (gG : GAt wG wZ.heap.size (.slice x' n n) (.slice y' n n) (.slice z' k k)) (d : Dom n k L F P) (hn : n ≤ 65536) (hk : k ≤ 65536) :
    Calls Try.prog 10 #[.pointer (some ⟨wZ.heap.size, 0, none⟩)] wG fun e w' => e = .returned (.tuple #[]) ∧ Below w0.heap.size w0 w' ∧ Rd w' x n (fun i => .int .i32 (L i)) ∧ Rd w' y n (fun i => .bool (F i)) ∧ Rd w' z k (fun i => .int .i32 (P i)) ∧ KeptAny wC.heap.size wZ.heap.size n k L F (nat P) w' := by
  have s1 := bX.size
  have s2 := bY.size
  have s3 := bZ.size
  have s4 := hC.1.size
  have dX := ((cX.below bY).below bZ).below bG
  have dY := (cY.below bZ).below bG
  have dZ := cZ.below bG
  have bAll : Below wC.heap.size wC wG := ((bX.trans (bY.mono s1)).trans (bZ.mono (Nat.le_trans s1 s2))).trans (bG.mono (Nat.le_trans s1 (Nat.le_trans s2 s3)))
  refine (keep_any wC.heap.size wZ.heap.size wC.heap.size wX.heap.size wY.heap.size n k x' y' z' L F P wG hn hk gG dX dY dZ d (Nat.le_refl _) s1 (by omega) (by omega) (fun h => ?_) (fun h => ?_)).mono ?_
  · have := cX.lt h
    have := cY.lt h
    omega
  · have := cZ.lt h
    omega
  · rintro e w' ⟨h1, h2, h3⟩
    have b := bAll.trans h2
    exact ⟨h1, hC.1.trans (b.mono s4), hC.2.1.below b, hC.2.2.1.below b, hC.2.2.2.below b, h3⟩

set_option maxRecDepth 100000 in
set_option maxHeartbeats 8000000 in
theorem law_any (a0 a1 a2 : Option Addr) (n c0 nf c1 k c2 : Nat) (L : Nat → Int) (F : Nat → Bool) (P : Nat → Int) (w : World)
    (h0 : Rd w a0 n (fun i => .int .i32 (L i))) (h1 : Rd w a1 nf (fun i => .bool (F i))) (h2 : Rd w a2 k (fun i => .int .i32 (P i))) (hP : ∀ j, j < k → -2147483648 ≤ P j ∧ P j ≤ 2147483647) :
    Calls Try.prog 3 #[.slice a0 n c0, .slice a1 nf c1, .slice a2 k c2] w fun e w' => e = .returned (.bool true) ∧ Below w.heap.size w w' := by
  have H0 := Hid.mk' h0
  have H1 := Hid.mk' h1
  have H2 := Hid.mk' h2
  have HP := Hid.mk' hP
  clear h0 h1 h2 hP
  go_enter Try.func3, Try.ntmps3
  go_wp2_with fail
  refine (bytes_any _ _ _ _ _ _ _ _ _ _).mono ?_
  rintro e w1 ⟨⟨t, rfl, _⟩, rfl⟩
  go_wp2_with fail
  all_goals first | (go_ret; exact ⟨rfl, Below.refl _ _⟩) | skip
  have b1 : n ≤ 65536 := by omega
  have b2 : nf ≤ 65536 := by omega
  have b3 : k ≤ 65536 := by omega
  refine (dom_any a0 a1 a2 n c0 nf c1 k c2 L F P w1 b1 b2 b3 H0.out H1.out H2.out HP.out).mono ?_
  rintro e w2 ⟨⟨t2, rfl, hdom⟩, hb2⟩
  have HB2 := Hid.mk' hb2
  have HDm := Hid.mk' hdom
  clear hb2 hdom
  cases t2 with
  | false =>
    go_wp2_with fail
    go_ret
    exact ⟨rfl, HB2.out⟩
  | true =>
    have hnf : n = nf := (HDm.out rfl).1.symm
    subst hnf
    have HD := Hid.mk' (HDm.out rfl).2
    clear HDm
    go_wp2_with fail
    refine (cloneI_any a0 n c0 L _ b1 (H0.out.below HB2.out)).mono ?_
    rintro e wA ⟨x, rfl, bA, _, cA⟩
    have HA := Hid.mk' (And.intro bA cA)
    clear bA cA
    go_wp2_with fail
    refine (cloneB_any a1 n c1 F _ b1 ((H1.out.below HB2.out).below HA.out.1)).mono ?_
    rintro e wB ⟨y, rfl, bB, _, cB⟩
    have HBB := Hid.mk' (And.intro bB cB)
    clear bB cB
    go_wp2_with fail
    refine (cloneI_any a2 k c2 P _ b3 (((H2.out.below HB2.out).below HA.out.1).below HBB.out.1)).mono ?_
    rintro e wC ⟨z, rfl, bC, _, cC⟩
    have HC := Hid.mk' (first3 HB2.out HA.out.1 HA.out.2 HBB.out.1 HBB.out.2 bC cC)
    clear bC cC HBB HA HB2 H0 H1 H2
    go_wp2_with fail
    refine (cloneI_any x n n L _ b1 HC.out.2.1).mono ?_
    rintro e wX ⟨x', rfl, bX, _, cX⟩
    have HX := Hid.mk' (And.intro bX cX)
    clear bX cX
    go_wp2_with fail
    refine (cloneB_any y n n F _ b1 (HC.out.2.2.1.below HX.out.1)).mono ?_
    rintro e wY ⟨y', rfl, bY, _, cY⟩
    have HY := Hid.mk' (And.intro bY cY)
    clear bY cY
    go_wp2_with fail
    refine (cloneI_any z k k P _ b3 ((HC.out.2.2.2.below HX.out.1).below HY.out.1)).mono ?_
    rintro e wZ ⟨z', rfl, bZ, _, cZ⟩
    have HZ := Hid.mk' (And.intro bZ cZ)
    clear bZ cZ
    go_wp2_with fail
    refine (graph_any x' y' z' n n n n k k _).mono ?_
    rintro e wG ⟨rfl, bG, sG, gG⟩
    have HGr := Hid.mk' (And.intro bG gG)
    clear bG gG sG
    go_wp2_with fail
    refine (keep_call HC.out HX.out.1 HX.out.2 HY.out.1 HY.out.2 HZ.out.1 HZ.out.2 HGr.out.1 HGr.out.2 HD.out b1 b3).mono ?_
    rintro e we ⟨rfl, hk⟩
    have HK := Hid.mk' hk
    clear hk HC HX HY HZ HGr
    generalize wZ.heap.size = G at HK ⊢
    generalize wC.heap.size = lo at HK
    by_cases hdn : n ≤ 2 * k
    · obtain ⟨s0, s1, s2, d0, d1, d2, one, r0, r1, r2⟩ := HK.out.2.2.2.2.1 hdn
      obtain ⟨f, hf⟩ : ∃ f, f = (pick F n).length := ⟨_, rfl⟩
      rw [← hf] at one r2
      simp only [List.length_nil] at one r0
      have HF := Hid.mk' hf
      have HH : Hid (Held w1 we n k L F P x y z 0 n f s0 s1 s2 (fun t => ([] : List Nat).getD t 0) L) := ⟨HK.out.1, HK.out.2.1, HK.out.2.2.1, HK.out.2.2.2.1, r0, r1, r2⟩
      have HO := Hid.mk' one
      have hdi : (n : Int) ≤ 2 * (k : Int) := by omega
      clear r0 r1 r2 hf HK one hdn
      go_wp2_with fail
      refine (count_any _ _ _ _ _ _ HO.out).mono ?_
      rintro e wq ⟨rfl, hq⟩
      subst hq
      go_wp2_with fail
      refine (rowV_any _ _ _ _ _ _ HO.out).mono ?_
      rintro e wp ⟨rfl, hq⟩
      subst hq
      go_wp2_with fail
      refine (rowL_any _ _ _ _ _ _ HO.out).mono ?_
      rintro e wo ⟨rfl, hq⟩
      subst hq
      go_wp2_with fail
      refine (rowF_any _ _ _ _ _ _ HO.out).mono ?_
      rintro e wn ⟨rfl, hq⟩
      subst hq
      clear HO
      go_wp2_with fail
      go_loopw [13] (fun vi wr => ∃ v : Nat, v ≤ n ∧ vi = .int .i64 v ∧ Hid (Same wn wr)) (fun vi _ => n - (intOf vi).toNat)
      case atStart => exact ⟨0, Nat.zero_le _, rfl, Same.refl _⟩
      case round =>
        obtain ⟨v, hv, rfl, HS⟩ := hrel
        have HH2 := Hid.mk' (HH.out.same HS.out)
        by_cases hlt : v < n
        · obtain ⟨ob1, oo1, e1, q1⟩ := HH2.out.lat.resolve_left (by omega)
          obtain ⟨ob2, oo2, e2, q2⟩ := HH2.out.rl.resolve_left (by omega)
          subst e1 e2
          have x1 := q1 v hlt
          have x2 := q2 v hlt
          clear q1 q2
          have tne : (L v != L v) = false := by simp
          generalize L v = lv at x1 x2 tne
          go_wp2_with fail
          first | go_quiet (fail) | fail
          have HS2 := Hid.mk' (HS.out.drewN nq)
          clear x1 x2
          go_wp2_with fail
          go_roundw
          case rel => exact ⟨v + 1, hlt, by go_num, HS2.out⟩
          case measure => simp [intOf]; omega
        · have ct : decide ((v : Int) < (n : Int)) = false := by simp; omega
          go_wp2_with fail
          go_loopw [14, 15] (fun vf vi w3 => ∃ v : Nat, v ≤ n ∧ vi = .int .i64 v ∧ vf = .int .i64 (cnt F v) ∧ w3 = wr) (fun _ vi _ => n - (intOf vi).toNat)
          case atStart => exact ⟨0, Nat.zero_le _, rfl, rfl, rfl⟩
          case round =>
            clear hv hlt ct
            obtain ⟨u, hu, rfl, rfl, rfl⟩ := hrel
            by_cases hul : u < n
            · obtain ⟨ob1, oo1, e1, q1⟩ := HH2.out.frk.resolve_left (by omega)
              subst e1
              have x1 : wr.cell? ⟨ob1, oo1 + u, none⟩ = some (.bool (F u)) := q1 u hul
              clear q1
              have hcu := cnt_le F u
              cases hFu : F u with
              | true =>
                have hcf : cnt F u < f := by rw [HF.out]; exact cnt_lt hul hFu
                obtain ⟨ob2, oo2, e2, q2⟩ := HH2.out.rf.resolve_left (by omega)
                subst e2
                have x2 : wr.cell? ⟨ob2, oo2 + cnt F u, none⟩ = some (.int .i32 ((pick F n).getD (cnt F u) 0 : Nat)) := q2 (cnt F u) hcf
                have x3 : (pick F n).getD (cnt F u) 0 = u := by simp [pick_at hul hFu]
                rw [x3] at x2
                rw [hFu] at x1
                have ec := cnt_yes (q := F) (v := u) hFu
                have w32 : IntKind.i32.wrap (u : Int) = (u : Int) := by rw [IntKind.wrap_i32]; omega
                have hng : ¬ (f : Int) ≤ (cnt F u : Int) := by omega
                have hnn : ((u : Int) != (u : Int)) = false := by simp
                clear q2 x3 hFu
                go_wp2_with fail
                go_roundw
                case rel => exact ⟨u + 1, hul, by go_num, by rw [ec]; go_num, by trivial⟩
                case measure => simp [intOf]; omega
              | false =>
                rw [hFu] at x1
                have ec := cnt_no (q := F) (v := u) hFu
                clear hFu
                go_wp2_with fail
                go_roundw
                case rel => exact ⟨u + 1, hul, by go_num, by rw [ec], by trivial⟩
                case measure => simp [intOf]; omega
            · have eu : u = n := by omega
              have ec : cnt F u = f := by rw [eu, HF.out]; rfl
              have ct : decide ((u : Int) < (n : Int)) = false := by simp; omega
              rw [ec]
              clear ec eu
              go_wp2_with fail
              go_ret
              exact ⟨by simp, HH2.out.below⟩
    · have hlenV : (pick (has (nat P) k) n).length = k := k_eq (fun i j h hj => HD.out.ne h hj) (fun j hj => HD.out.lt hj)
      obtain ⟨s0, s1, s2, d0, d1, d2, one, r0, r1, r2⟩ := HK.out.2.2.2.2.2 hdn
      obtain ⟨f, hf⟩ : ∃ f, f = (pick F n).length := ⟨_, rfl⟩
      rw [← hf] at one r2
      rw [hlenV] at one r0
      have HF := Hid.mk' hf
      have HH : Hid (Held w1 we n k L F P x y z k k f s0 s1 s2 (fun t => (pick (has (nat P) k) n).getD t 0) (fun t => L ((pick (has (nat P) k) n).getD t 0))) := ⟨HK.out.1, HK.out.2.1, HK.out.2.2.1, HK.out.2.2.2.1, r0, r1, r2⟩
      have HO := Hid.mk' one
      have HQk : Hid (cnt (has (nat P) k) n = k) := hlenV
      have HQF : Hid (∀ v, v < n → F v = true → has (nat P) k v = true) := fun v hv hF => HD.out.fork hv hF
      have hdi : ¬ (n : Int) ≤ 2 * (k : Int) := by omega
      have hmk := run_make_row' (P := Try.prog) 32 3 (.int .i64 0) 8 Try.underlying32 Try.info3 rfl .i64 .i64 n (by omega) (by omega)
      clear r0 r1 r2 hf HK one hdn hlenV
      go_wp2_with fail
      refine (count_any _ _ _ _ _ _ HO.out).mono ?_
      rintro e wq ⟨rfl, hq⟩
      subst hq
      go_wp2_with fail
      refine (rowV_any _ _ _ _ _ _ HO.out).mono ?_
      rintro e wp ⟨rfl, hq⟩
      subst hq
      go_wp2_with fail
      refine (rowL_any _ _ _ _ _ _ HO.out).mono ?_
      rintro e wo ⟨rfl, hq⟩
      subst hq
      go_wp2_with fail
      refine (rowF_any _ _ _ _ _ _ HO.out).mono ?_
      rintro e wn ⟨rfl, hq⟩
      subst hq
      clear HO
      go_wp2_with fail
      clear hmk
      go_loopw [17] (fun vi wr => ∃ j : Nat, j ≤ k ∧ vi = .int .i64 j ∧ Hid (Below wn.heap.size wn wr ∧ wr.rowIs wn.heap.size 3 n (fun v => .int .i64 (if has (nat P) j v then 1 else 0)))) (fun vi _ => k - (intOf vi).toNat)
      case atStart => exact ⟨0, Nat.zero_le _, rfl, (Below.refl _ _).alloc (Nat.le_refl _) _, (World.rowIs_made _ _ _ _).congr fun v _ => by simp [has, lst]⟩
      case round =>
        obtain ⟨j, hj, rfl, HC⟩ := hrel
        have HH2 := Hid.mk' (HH.out.grown HC.out.1)
        by_cases hlt : j < k
        · obtain ⟨ob1, oo1, e1, q1⟩ := HH2.out.pre.resolve_left (by omega)
          subst e1
          have x1 : wr.cell? ⟨ob1, oo1 + j, none⟩ = some (.int .i32 (P j)) := q1 j hlt
          clear q1
          rw [HD.out.eq hlt] at x1
          have hpn := HD.out.lt hlt
          have hnh : has (nat P) j (nat P j) = false := has_new fun i hi => HD.out.ne hi hlt
          have x2 : wr.cell? ⟨wn.heap.size, nat P j, none⟩ = some (.int .i64 (if has (nat P) j (nat P j) then 1 else 0)) := HC.out.2.cell hpn
          rw [hnh] at x2
          simp only [Bool.false_eq_true, if_false] at x2
          have x3 := HC.out.2.frozen (nat P j)
          obtain ⟨u, hu⟩ : ∃ u, u = nat P j := ⟨_, rfl⟩
          rw [← hu] at x1 x2 x3 hpn
          have HU := Hid.mk' hu
          clear hnh hu
          go_wp2_with fail
          go_roundw
          case rel =>
            refine ⟨j + 1, hlt, by go_num, HC.out.1.setCell (Nat.le_refl _) _, (HC.out.2.set u _).congr fun v hv => ?_⟩
            rw [HU.out]
            exact count_next (nat P) j v
          case measure => simp [intOf]; omega
        · have ct : decide ((j : Int) < (k : Int)) = false := by simp; omega
          have hc2 := HC.out.2
          have ej : j = k := by omega
          rw [ej] at hc2
          have HCk := Hid.mk' hc2
          clear hc2 ej HC
          generalize has (nat P) k = q at HH2 HQk HQF HCk
          generalize wn.heap.size = CB at HCk ⊢
          go_wp2_with fail
          generalize wr = w7 at HH2 HCk ⊢
          go_loopw [18, 19, 20] (fun va vf vi w3 => ∃ v : Nat, v ≤ n ∧ vi = .int .i64 v ∧ va = .int .i64 (cnt q v) ∧ vf = .int .i64 (cnt F v) ∧ Hid (Same w7 w3)) (fun _ _ vi _ => n - (intOf vi).toNat)
          case atStart => exact ⟨0, Nat.zero_le _, rfl, rfl, rfl, Same.refl _⟩
          case round =>
            clear hj hlt ct
            obtain ⟨v, hv, rfl, rfl, rfl, HS⟩ := hrel
            by_cases hvl : v < n
            · go_wp2_with fail
              go_loopw [18, 19, 21] (fun va vf vc w4 => ∃ c : Nat, vc = .int .i64 c ∧ InRound q F v c va vf ∧ Hid (Same w7 w4)) (fun _ _ vc _ => 2 - (intOf vc).toNat)
              case atStart => exact ⟨0, rfl, Or.inl ⟨rfl, rfl, rfl⟩, HS.out⟩
              case round =>
                clear HS
                obtain ⟨c, rfl, hcase, HS⟩ := hrel
                have HH3 := Hid.mk' (HH2.out.same HS.out)
                have hcn : wr.cell? ⟨CB, v, none⟩ = some (.int .i64 (if q v then 1 else 0)) := (World.cell?_of_block (a := ⟨CB, v, none⟩) (by rw [HS.out.heap])).trans (HCk.out.cell hvl)
                rcases hcase with ⟨rfl, rfl, rfl⟩ | ⟨rfl, hqv, rfl, rfl⟩
                · cases hqv : q v with
                  | false =>
                    rw [hqv] at hcn
                    simp only [Bool.false_eq_true, if_false] at hcn
                    have hFv : F v = false := by
                      cases hF : F v with
                      | false => rfl
                      | true => rw [HQF.out v hvl hF] at hqv; cases hqv
                    have HE := Hid.mk' (And.intro (cnt_no (q := q) hqv) (cnt_no (q := F) hFv))
                    clear hqv hFv
                    go_wp2_with fail
                    go_roundw
                    case rel => exact ⟨v + 1, hvl, by go_num, by rw [HE.out.1], by rw [HE.out.2], HS.out⟩
                    case measure => simp [intOf]; omega
                  | true =>
                    rw [hqv] at hcn
                    simp only [if_true] at hcn
                    have hak : cnt q v < k := by have := cnt_lt hvl hqv; rw [HQk.out] at this; exact this
                    obtain ⟨ob1, oo1, e1, q1⟩ := HH3.out.rv.resolve_left (by omega)
                    obtain ⟨ob2, oo2, e2, q2⟩ := HH3.out.rl.resolve_left (by omega)
                    obtain ⟨ob3, oo3, e3, q3⟩ := HH3.out.lat.resolve_left (by omega)
                    obtain ⟨ob4, oo4, e4, q4⟩ := HH3.out.frk.resolve_left (by omega)
                    subst e1 e2 e3 e4
                    have hVv : (pick q n).getD (cnt q v) 0 = v := by simp [pick_at hvl hqv]
                    have x1 : wr.cell? ⟨ob1, oo1 + cnt q v, none⟩ = some (.int .i32 ((pick q n).getD (cnt q v) 0 : Nat)) := q1 _ hak
                    have x2 : wr.cell? ⟨ob2, oo2 + cnt q v, none⟩ = some (.int .i32 (L ((pick q n).getD (cnt q v) 0))) := q2 _ hak
                    have x3 : wr.cell? ⟨ob3, oo3 + v, none⟩ = some (.int .i32 (L v)) := q3 _ hvl
                    have x4 : wr.cell? ⟨ob4, oo4 + v, none⟩ = some (.bool (F v)) := q4 _ hvl
                    rw [hVv] at x1 x2
                    clear q1 q2 q3 q4 hVv
                    have HQv := Hid.mk' hqv
                    clear hqv
                    have w32 : IntKind.i32.wrap (v : Int) = (v : Int) := by rw [IntKind.wrap_i32]; omega
                    have hng : ¬ (k : Int) ≤ (cnt q v : Int) := by omega
                    have hng2 : decide ((k : Int) ≤ (cnt q v : Int)) = false := by simp; omega
                    have hnn : ((v : Int) != (v : Int)) = false := by simp
                    have tne : (L v != L v) = false := by simp
                    have hcv := cnt_le q v
                    have hcv2 := cnt_le F v
                    generalize L v = lv at x2 x3 tne
                    go_wp2_with fail
                    first | go_quiet (fail) | fail
                    have HS2 := Hid.mk' (HS.out.drewN nq)
                    have HH4 := Hid.mk' (HH3.out.same ((Same.refl wr).drewN nq))
                    replace x4 : (wr.drewN nq).cell? ⟨ob4, oo4 + v, none⟩ = some (.bool (F v)) := x4
                    clear x1 x2 x3 HH3 HS hcn
                    generalize wr.drewN nq = w9 at HS2 HH4 x4 ⊢
                    have eq1 := cnt_yes (q := q) HQv.out
                    cases hFv : F v with
                    | true =>
                      rw [hFv] at x4
                      have hff : cnt F v < f := by rw [HF.out]; exact cnt_lt hvl hFv
                      obtain ⟨ob5, oo5, e5, q5⟩ := HH4.out.rf.resolve_left (by omega)
                      subst e5
                      have x5 : w9.cell? ⟨ob5, oo5 + cnt F v, none⟩ = some (.int .i32 ((pick F n).getD (cnt F v) 0 : Nat)) := q5 _ hff
                      have hFV : (pick F n).getD (cnt F v) 0 = v := by simp [pick_at hvl hFv]
                      rw [hFV] at x5
                      have hnf : ¬ (f : Int) ≤ (cnt F v : Int) := by omega
                      have eq2 := cnt_yes (q := F) hFv
                      clear q5 hFV hFv
                      go_wp2_with fail
                      go_roundw
                      case rel => exact ⟨1, by go_num, Or.inr ⟨rfl, HQv.out, by rw [eq1]; go_num, by rw [eq2]; go_num⟩, HS2.out⟩
                      case measure => simp [intOf]
                    | false =>
                      rw [hFv] at x4
                      have eq2 := cnt_no (q := F) hFv
                      clear hFv
                      go_wp2_with fail
                      go_roundw
                      case rel => exact ⟨1, by go_num, Or.inr ⟨rfl, HQv.out, by rw [eq1]; go_num, by rw [eq2]⟩, HS2.out⟩
                      case measure => simp [intOf]
                · rw [hqv] at hcn
                  simp only [if_true] at hcn
                  clear hqv
                  go_wp2_with fail
                  go_roundw
                  case rel => exact ⟨v + 1, hvl, by go_num, rfl, rfl, HS.out⟩
                  case measure => simp [intOf]; omega
            · have ev : v = n := by omega
              have e1 : cnt q v = k := by rw [ev]; exact HQk.out
              have e2 : cnt F v = f := by rw [ev, HF.out]; rfl
              have ct : decide ((v : Int) < (n : Int)) = false := by simp; omega
              have HBl := Hid.mk' (HH2.out.same HS.out).below
              rw [e1, e2]
              clear e1 e2 ev
              go_wp2_with fail
              all_goals (go_ret; exact ⟨by simp, HBl.out⟩)
end Go.Proofs.Qxb6608693a

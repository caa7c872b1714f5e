import Derived.Test.Qxb6608693aKeepP
namespace Go.Proofs.Qxb6608693a
open Go.RowKit Go.Deep Srt
set_option linter.unusedVariables false
set_option linter.unusedSimpArgs false

/-- the words of a sparse row behind j of the present -/
structure Ws (n k : Nat) (L : Nat → Int) (F : Nat → Bool) (u : Nat → Nat) (j : Nat) (gW : Nat → Int) : Prop where
  val : ∀ i, i < k → gW i = (u i : Int)
  lat : ∀ i, i < j → gW (k + i) = L (u i)
  frk : ∀ t v : Nat, (pick F n)[t]? = some v → t < cnt (fun t => F (u t)) j → gW (2 * k + t) = v
theorem Ws.no {n k : Nat} {L : Nat → Int} {F : Nat → Bool} {u : Nat → Nat} {j : Nat} {gW : Nat → Int} (h : Ws n k L F u j gW) (hj : j < k) (hF : F (u j) = false) :
    Ws n k L F u (j + 1) (fun i => if i = k + j then L (u j) else gW i) := by
  refine ⟨fun i hi => ?_, fun i hi => ?_, fun t v h1 h2 => ?_⟩
  · rw [if_neg (by omega)]; exact h.val i hi
  · by_cases e : i = j
    · subst e; simp
    · rw [if_neg (by omega)]; exact h.lat i (by omega)
  · rw [cnt_no (q := fun t => F (u t)) hF] at h2
    rw [if_neg (by omega)]; exact h.frk t v h1 h2
theorem Ws.yes {n k : Nat} {L : Nat → Int} {F : Nat → Bool} {u : Nat → Nat} {j : Nat} {gW : Nat → Int} (h : Ws n k L F u j gW) (hj : j < k) (hF : F (u j) = true) (ha : (pick F n)[cnt (fun t => F (u t)) j]? = some (u j)) :
    Ws n k L F u (j + 1) (fun i => if i = 2 * k + cnt (fun t => F (u t)) j then (u j : Int) else if i = k + j then L (u j) else gW i) := by
  refine ⟨fun i hi => ?_, fun i hi => ?_, fun t v h1 h2 => ?_⟩
  · rw [if_neg (by omega), if_neg (by omega)]; exact h.val i hi
  · rw [if_neg (by omega)]
    by_cases e : i = j
    · subst e; simp
    · rw [if_neg (by omega)]; exact h.lat i (by omega)
  · rw [cnt_yes (q := fun t => F (u t)) hF] at h2
    by_cases e : t = cnt (fun t => F (u t)) j
    · subst e
      rw [ha] at h1
      cases h1
      simp
    · rw [if_neg (by omega), if_neg (by omega)]; exact h.frk t v h1 (by omega)

theorem kept_sparse {lo : Nat} {w wr we : World} {G XB YB ZB R W n k S f : Nat} {L : Nat → Int} {F : Nat → Bool} {zs : Nat → Int} {u : Nat → Nat} {V : List Nat} {fa : Option Addr} {gW : Nat → Int}
    (J : KP lo w wr G XB YB ZB R W n k S L F zs (.slice (some ⟨W, 0, none⟩) k k) (.slice (some ⟨W, k, none⟩) k k) (.slice fa f f) gW) (H : Ws n k L F u k gW) (st : Step G wr.drew we)
    (one : OneRow wr.drew.heap.size we G (.slice (some ⟨W, 0, none⟩) k k) (.slice (some ⟨W, k, none⟩) k k) (.slice fa f f)) (hf : f = cnt F n) (hfa : f = 0 ∨ fa = some ⟨W, 2 * k, none⟩) (hlo : lo ≤ G) (hS : 2 * k + f ≤ S)
    (hV : V.length = k) (hu : ∀ j, V.getD j 0 = u j) (hFk : cnt (fun t => F (u t)) k = cnt F n) :
    Below lo w we ∧ Kept lo G V k (fun t => L (V.getD t 0)) (pick F n) we := by
  have hR : W < wr.heap.size := J.rW.lt
  have hl := J.hlo
  have hG := J.hG
  have hRW := J.hRW
  have rW : we.rowIs W 21 S (fun j => .int .i32 (gW j)) := J.rW.of_block (st.block W hR (by omega))
  refine ⟨J.below.trans ⟨st.os, st.tape, st.output, st.size, fun k hk => st.block k (show k < wr.heap.size by omega) (by omega)⟩, some ⟨W, 0, none⟩, some ⟨W, k, none⟩, fa, k, k, f, ?_, ?_, ?_, ?_⟩
  · have : (pick F n).length = f := hf.symm
    rw [this, hV]
    exact one.mono (show lo ≤ wr.heap.size by omega)
  · rw [hV]
    refine Or.inr ⟨W, 0, rfl, fun i hi => ?_⟩
    rw [Nat.zero_add, rW.cell (by omega), H.val i hi, ← hu i]
  · refine Or.inr ⟨W, k, rfl, fun i hi => ?_⟩
    rw [rW.cell (by omega), H.lat i hi, ← hu i]
  · rcases hfa with h0 | h0
    · exact Or.inl (hf.symm.trans h0)
    · refine Or.inr ⟨W, 2 * k, h0, fun t ht => ?_⟩
      have hc : t < cnt F n := ht
      rw [rW.cell (by omega), H.frk t _ (List.getElem?_eq_getElem ht) (by rw [hFk]; exact hc)]
      simp [ht]

set_option maxRecDepth 100000 in
set_option maxHeartbeats 4000000 in
theorem keep_sparse (lo G XB YB ZB n k : Nat) (L : Nat → Int) (F : Nat → Bool) (p : Nat → Nat) (w : World)
    (hn : 0 < n) (hn2 : n ≤ 65536) (hk2 : k ≤ 65536) (hk0 : (0 : Int) < k) (hd : ¬ (n : Int) ≤ 2 * (k : Int))
    (pre : Pre w G XB YB ZB n k L F p)
    (hp : ∀ j, j < k → p j < n) (hdi : ∀ i j, i < j → j < k → p i ≠ p j) (hab : ∀ v, v < n → F v = true → has p k v = true) (hl1 : lo ≤ XB) (hl2 : lo ≤ YB) (hl3 : lo ≤ ZB) (hl4 : lo ≤ G) (hXG : XB ≠ G) (hYG : YB ≠ G) (hZG : ZB ≠ G) (hXZ : XB ≠ ZB) (hYZ : YB ≠ ZB) :
    Calls Try.prog 18 #[.pointer (some ⟨G, 0, none⟩)] w fun e w' => e = .returned (.tuple #[]) ∧ Below lo w w' ∧
      Kept lo G (pick (has p k) n) k (fun t => L ((pick (has p k) n).getD t 0)) (pick F n) w' := by
  have hfk := forks_eq hdi hp hab
  have HK : Hid ((pick (has p k) n).length = k) := k_eq hdi hp
  have HSo : Hid (∀ g : Nat → Int, SwapsIn 0 k (fun j => (p j : Int)) g → Sorted 0 k g → ∀ j, j < k → ∃ v, (pick (has p k) n)[j]? = some v ∧ g j = (v : Int)) := fun g s so => sorted_list hdi hp (fun _ _ => rfl) s so
  have HD : Hid (Distinct k (fun j => (p j : Int))) := fun i j hij hj => by have := hdi i j hij hj; show (p i : Int) ≠ (p j : Int); omega
  have HFA1 : Hid (∀ j, j < k → F ((pick (has p k) n).getD j 0) = true → (pick F n)[cnt (fun t => F ((pick (has p k) n).getD t 0)) j]? = some ((pick (has p k) n).getD j 0)) := fun j hj hF => fork_at hab (by rw [HK.out]; exact hj) hF
  have HFA2 : Hid (cnt (fun t => F ((pick (has p k) n).getD t 0)) k = cnt F n) := by have := fork_all (q := has p k) hab; rw [HK.out] at this; exact this
  have HU : Hid (∀ j, j < k → (pick (has p k) n).getD j 0 < n) := fun j hj => pick_getD_lt (by rw [HK.out]; exact hj)
  clear hdi hab
  have HP : Hid (∀ j, j < k → p j < n) := hp
  have HF : Hid (cnt (fun j => F (p j)) k = cnt F n) := hfk
  have HR : Hid (Pre w G XB YB ZB n k L F p) := pre
  have h17 := pre.g.latest
  have h18 := pre.g.forked
  have h19 := pre.g.present
  have hB : Hid (Below lo w w) := Below.refl _ _
  clear hp hfk pre
  go_enter Try.func18, Try.ntmps18
  go_wp2_with fail
  first | go_quiet (fail) | fail
  have HR2 := HR.out.drewN nq
  have HB2 : Hid (Below lo w (w.drewN nq)) := Below.drewN hB.out nq
  replace h17 := HR2.g.latest
  replace h18 := HR2.g.forked
  replace h19 := HR2.g.present
  replace HR2 := Hid.mk' HR2
  generalize w.drewN nq = w2 at HR2 HB2 h17 h18 h19 ⊢
  go_wp2_with fail
  go_loopw [33, 5] (fun vj vf wr => ∃ j : Nat, j ≤ k ∧ vj = .int .i64 j ∧ vf = .int .i64 (cnt (fun j => F (p j)) j) ∧ wr = w2) (fun vj _ _ => k - (intOf vj).toNat)
  case atStart => exact ⟨0, Nat.zero_le _, rfl, rfl, rfl⟩
  case round =>
    obtain ⟨j, hj, rfl, rfl, rfl⟩ := hrel
    by_cases hlt : j < k
    · have c1 := HR2.out.rZ.cell hlt
      have hpj := HP.out j hlt
      have c2 := HR2.out.rY.cell hpj
      have hfj := cnt_le (fun j => F (p j)) j
      cases hFv : F (p j) with
      | true =>
        rw [hFv] at c2
        have e := cnt_yes (q := fun j => F (p j)) (v := j) hFv
        clear hFv
        go_wp2_with fail
        go_roundw
        case rel => exact ⟨j + 1, hlt, by go_num, by rw [e]; go_num, by trivial⟩
        case measure => simp [intOf]; omega
      | false =>
        rw [hFv] at c2
        have e := cnt_no (q := fun j => F (p j)) (v := j) hFv
        clear hFv
        go_wp2_with fail
        go_roundw
        case rel => exact ⟨j + 1, hlt, by go_num, by rw [e], by trivial⟩
        case measure => simp [intOf]; omega
    · have ek : k = j := by omega
      subst ek
      rw [HF.out]
      obtain ⟨f, hf⟩ : ∃ f, f = cnt F n := ⟨_, rfl⟩
      have hfn : f ≤ n := hf ▸ cnt_le F n
      rw [← hf]
      have HFn := Hid.mk' hf
      clear hf
      obtain ⟨V, hV⟩ : ∃ V, V = pick (has p k) n := ⟨_, rfl⟩
      rw [← hV] at HK HSo HFA1 HFA2 HU
      have HVp := Hid.mk' hV
      clear hV
      have h16 := HR2.out.g.block
      have f16 := HR2.out.g.thawed 16
      have hGl : G < wr.heap.size := cell_lt h16
      have rz0 : Row (wr.alloc (.cells #[.slice none 0 0, .slice none 0 0, .slice none 0 0] 69)) ZB k (fun j => (p j : Int)) := HR2.out.rZ.alloc _
      have HZ0 := Hid.mk' rz0
      clear rz0
      go_wp2_with (first
        | (go_at_call 22
           refine (sort_any ZB k _ _ hk2 HZ0.out HD.out).mono ?_
           rintro e ws ⟨rfl, sst, g, sro, ssw, sso⟩
           have HS := Hid.mk' (sd_first HR2 HB2 sst sro hl3 (by omega) hXZ hYZ (Ne.symm hZG))
           have HSS := Hid.mk' (HSo.out g ssw sso)
           have g16 : ws.cell? ⟨G, 16, none⟩ = some (.slice none 0 0) := (World.cell?_of_block (a := ⟨G, 16, none⟩) HS.out.graph).trans h16
           have k16 : ws.frozen? ⟨G, 16, none⟩ = false := (World.frozen?_of_block (a := ⟨G, 16, none⟩) HS.out.graph).trans f16
           clear sst sro ssw sso)
        | (go_at_call 21
           refine (words_at G (2 * k + f) _ _ (by push_cast; rfl) g16 k16 (by omega) (by omega)).mono ?_
           rintro e w3 ⟨rfl, wst, wsz, wcs, wfz, S, hS, rW⟩
           have HM := Hid.mk' (kp_first HR2 HS wst wcs wfz rW hl4 (by omega) hXG hYG hZG)
           clear wst wcs wfz rW))
      obtain ⟨u, hu⟩ : ∃ u : Nat → Nat, u = fun j => V.getD j 0 := ⟨_, rfl⟩
      have HVu : Hid (∀ j, V.getD j 0 = u j) := fun j => by rw [hu]
      replace HFA1 : Hid (∀ j, j < k → F (u j) = true → (pick F n)[cnt (fun t => F (u t)) j]? = some (u j)) := by rw [hu]; exact HFA1
      replace HFA2 : Hid (cnt (fun t => F (u t)) k = cnt F n) := by rw [hu]; exact HFA2
      replace HU : Hid (∀ j, j < k → u j < n) := by rw [hu]; exact HU
      have HM0 : Hid (KP lo w w3 G XB YB ZB wr.heap.size ws.heap.size n k S L F (fun j => (u j : Int)) (.slice none 0 0) (.slice none 0 0) (.slice none 0 0) (fun _ => 0)) := HM.out.zsCongr fun j hj => by
        obtain ⟨v, h1, h2⟩ := HSS.out j hj
        have h3 : V.getD j 0 = v := by simp [h1]
        have h4 : u j = V.getD j 0 := by rw [hu]
        show g j = ((u j : Nat) : Int)
        rw [h2, h4, h3]
      clear hu HM HSS HSo g16 k16 HZ0 HD h16 f16 h17 h18 h19 HR2 HR HB2 hB HS g
      generalize wr.heap.size = R at HM0 hGl ⊢
      generalize ws.heap.size = W at HM0 wsz ⊢
      have hRW := HM0.out.hRW
      have cR0 := HM0.out.rR.cell (i := 0) (by decide)
      have cR1 := HM0.out.rR.cell (i := 1) (by decide)
      have cR2 := HM0.out.rR.cell (i := 2) (by decide)
      have fR0 := HM0.out.rR.frozen 0
      have fR1 := HM0.out.rR.frozen 1
      have fR2 := HM0.out.rR.frozen 2
      have i0 : (k : Int) ≤ ((2 * k + f : Nat) : Int) := by omega
      have i1 : (k : Int) ≤ 2 * (k : Int) + (f : Int) := by omega
      have i2 : k ≤ 2 * k + f := by omega
      have i3 : (k : Int) ≤ 2 * (k : Int) := by omega
      have i4 : 2 * (k : Int) ≤ ((2 * k + f : Nat) : Int) := by omega
      have i5 : 2 * (k : Int) ≤ 2 * (k : Int) + (f : Int) := by omega
      have i6 : 2 * k ≤ 2 * k + f := by omega
      have i7 : (0 : Int) ≤ 2 * (k : Int) := by omega
      have i8 : (2 * (k : Int)).toNat = 2 * k := by omega
      have wk : IntKind.i64.wrap (2 * (k : Int)) = 2 * (k : Int) := wrap_id _ (by omega) (by omega)
      go_region
      rw [show 2 * k - k = k by omega]
      obtain ⟨fa, hfa⟩ : ∃ fa, fa = (if f = 0 then some (⟨W, 0, none⟩ : Addr) else some ⟨W, 2 * k, none⟩) := ⟨_, rfl⟩
      rw [← hfa]
      have HFA : Hid (f = 0 ∨ fa = some ⟨W, 2 * k, none⟩) := by
        by_cases e : f = 0
        · exact Or.inl e
        · exact Or.inr (by rw [hfa, if_neg e])
      clear hfa
      have HM2 := Hid.mk' ((((HM0.out.setR 0 (.slice (some ⟨W, 0, none⟩) k k) rfl rfl rfl).setR 1 (.slice (some ⟨W, k, none⟩) k k) rfl rfl rfl).setR 2 (.slice fa 0 f) rfl rfl rfl)).drew
      simp only [reduceIte, show (0 : Nat) = 1 ↔ False by simp, show (0 : Nat) = 2 ↔ False by simp, show (1 : Nat) = 0 ↔ False by simp, show (2 : Nat) = 0 ↔ False by simp, show (2 : Nat) = 1 ↔ False by simp, show (1 : Nat) = 2 ↔ False by simp] at HM2
      clear cR0 cR1 cR2 fR0 fR1 fR2 HM0 i0 i1 i2 i3 i4 i5 i6 i7 i8
      generalize (((w3.setCell _ _).setCell _ _).setCell _ _).drew = w4 at HM2 ⊢
      have cR0 := HM2.out.rR.cell (i := 0) (by decide)
      have cG := HM2.out.c19
      simp only [reduceIte] at cR0
      have hS' : 0 + k ≤ S := by omega
      have hGW : G < W := by omega
      go_wp2_with fail
      go_region_held3 (fun x => x.cell? ⟨R, 0, none⟩ = some (.slice (some ⟨W, 0, none⟩) k k) ∧ x.cell? ⟨G, 19, none⟩ = some (.slice (some ⟨ZB, 0, none⟩) k k)) (first | (go_keep; done) | (refine ⟨?_, ?_⟩ <;> assumption))
        (first
          | (refine step_copyI rfl (.tmp 124) (.tmp 128) rfl W 0 S k k k ZB _ (fun j => (u j : Int)) rfl rfl HM2.out.rW (fun i hi => HM2.out.rZ.cell hi) hS' ?_
             intro w5 hw5 hb5
             have k1 : w5.cell? ⟨R, 0, none⟩ = some (.slice (some ⟨W, 0, none⟩) k k) := (hb5.out.cell (p := ⟨R, 0, none⟩) hRW).trans cR0
             have k2 : w5.cell? ⟨G, 19, none⟩ = some (.slice (some ⟨ZB, 0, none⟩) k k) := (hb5.out.cell (p := ⟨G, 19, none⟩) hGW).trans cG))
      have HM3 := HM2.out.drew.words hb5.out hw5.out
      obtain ⟨gW, hgW⟩ : ∃ gW : Nat → Int, gW = fun j => if 0 ≤ j ∧ j < 0 + k then (fun j => (u j : Int)) (j - 0) else (fun _ => (0 : Int)) j := ⟨_, rfl⟩
      rw [← hgW] at HM3
      have HW : Hid (Ws n k L F u 0 gW) := ⟨fun j hj => by rw [hgW]; simp [hj], fun i hi => by omega, fun t v _ h => absurd h (by simp [cnt_zero])⟩
      clear hgW HM2 hw5 hb5 cR0 cG
      replace HM3 := Hid.mk' HM3
      have cF := HM3.out.c19
      go_wp2_with fail
      go_loopw [135] (fun vi wr => ∃ (j : Nat) (gW : Nat → Int), j ≤ k ∧ vi = .int .i64 j ∧ Hid (Ws n k L F u j gW ∧ KP lo w wr G XB YB ZB R W n k S L F (fun j => (u j : Int)) (.slice (some ⟨W, 0, none⟩) k k) (.slice (some ⟨W, k, none⟩) k k) (.slice fa (cnt (fun t => F (u t)) j) f) gW)) (fun vi _ => k - (intOf vi).toNat)
      case atStart => exact ⟨0, gW, Nat.zero_le _, rfl, HW.out, HM3.out⟩
      case round =>
        clear HM3 cF HW gW
        obtain ⟨j, gW, hj1, rfl, HI⟩ := hrel
        by_cases hlt1 : j < k
        · have z1 := HI.out.2.rZ.cell hlt1
          have hu1 := HU.out j hlt1
          have x1 := HI.out.2.rX.cell hu1
          have y1 := HI.out.2.rY.cell hu1
          have g17 := HI.out.2.c17
          have g18 := HI.out.2.c18
          have b1 := HI.out.2.rR.cell (i := 1) (by decide)
          simp only [reduceIte, show (1 : Nat) = 0 ↔ False by simp] at b1
          have a1 := HI.out.2.rW.cell (i := k + j) (by omega)
          have a2 := HI.out.2.rW.frozen (k + j)
          have hcj := cnt_le (fun t => F (u t)) j
          obtain ⟨x, hx⟩ : ∃ x, x = u j := ⟨_, rfl⟩
          rw [← hx] at z1 hu1 x1 y1
          have HX := Hid.mk' hx
          clear hx
          go_wp2_with fail
          go_region
          have HQ : Hid (KP lo w ((wr.setCell ⟨W, k + j, none⟩ (.int .i32 (L x))).drew) G XB YB ZB R W n k S L F (fun j => (u j : Int)) (.slice (some ⟨W, 0, none⟩) k k) (.slice (some ⟨W, k, none⟩) k k) (.slice fa (cnt (fun t => F (u t)) j) f) (fun i => if i = k + j then L x else gW i)) := (HI.out.2.setW (k + j) (L x)).drew
          have HWj := Hid.mk' HI.out.1
          clear HI z1 x1 y1 g17 g18 b1 a1 a2
          generalize (wr.setCell _ _).drew = w6 at HQ ⊢
          have y1 := HQ.out.rY.cell hu1
          have g18 := HQ.out.c18
          cases hFv : F x with
          | true =>
            rw [hFv] at y1
            have hFu : F (u j) = true := by rw [← HX.out]; exact hFv
            have HFu := Hid.mk' hFu
            have HA := Hid.mk' (HFA1.out j hlt1 hFu)
            have hcf : cnt (fun t => F (u t)) j + 1 ≤ f := by
              have := cnt_mono (fun t => F (u t)) (v := j + 1) (n := k) hlt1
              rw [cnt_yes (q := fun t => F (u t)) hFu, HFA2.out, ← HFn.out] at this
              exact this
            have hfa : fa = some ⟨W, 2 * k, none⟩ := by
              rcases HFA.out with h | h
              · omega
              · exact h
            subst hfa
            have e := cnt_yes (q := fun t => F (u t)) (v := j) hFu
            clear hFv hFu
            have c2 := HQ.out.rR.cell (i := 2) (by decide)
            have f2 := HQ.out.rR.frozen 2
            simp only [reduceIte, show (2 : Nat) = 0 ↔ False by simp, show (2 : Nat) = 1 ↔ False by simp] at c2
            have cW := HQ.out.rW.cell (i := 2 * k + cnt (fun t => F (u t)) j) (by omega)
            have fW := HQ.out.rW.frozen (2 * k + cnt (fun t => F (u t)) j)
            have hWl : W < w6.heap.size := HQ.out.rW.lt
            have hRl2 : R < w6.heap.size := by omega
            go_wp2_with fail
            go_roundw
            case rel =>
              refine ⟨j + 1, _, hlt1, by go_num, HWj.out.yes hlt1 HFu.out HA.out, ?_⟩
              rw [e, ← HX.out]
              exact ((HQ.out.setW (2 * k + cnt (fun t => F (u t)) j) (x : Int)).setR 2 _ rfl rfl rfl).alloc _
            case measure => simp [intOf]; omega
          | false =>
            rw [hFv] at y1
            have hFu : F (u j) = false := by rw [← HX.out]; exact hFv
            have HFu := Hid.mk' hFu
            have e := cnt_no (q := fun t => F (u t)) (v := j) hFu
            clear hFv hFu
            go_wp2_with fail
            go_roundw
            case rel =>
              refine ⟨j + 1, _, hlt1, by go_num, HWj.out.no hlt1 HFu.out, ?_⟩
              rw [e, ← HX.out]
              exact HQ.out
            case measure => simp [intOf]; omega
        · have ek : k = j := by omega
          have hx := HI.out.2
          have HW := HI.out.1
          rw [← ek] at hx HW
          rw [HFA2.out, ← HFn.out] at hx
          have HJ := Hid.mk' hx
          replace HW := Hid.mk' HW
          have ct : decide ((j : Int) < (k : Int)) = false := by simp; omega
          clear HI hx ek
          have c0 := HJ.out.rR.cell (i := 0) (by decide)
          have c1 := HJ.out.rR.cell (i := 1) (by decide)
          have c2 := HJ.out.rR.cell (i := 2) (by decide)
          simp only [reduceIte, show (1 : Nat) = 0 ↔ False by simp, show (2 : Nat) = 0 ↔ False by simp, show (2 : Nat) = 1 ↔ False by simp] at c0 c1 c2
          have c13 := HJ.out.c13
          have f13 := HJ.out.f13
          go_wp2_with fail
          have hRl : R < wr.heap.size := by have := HJ.out.rW.lt; omega
          have hRG : R ≠ G := by omega
          go_region_held3 (fun x => x.cell? ⟨R, 0, none⟩ = some (.slice (some ⟨W, 0, none⟩) k k) ∧ x.cell? ⟨R, 1, none⟩ = some (.slice (some ⟨W, k, none⟩) k k) ∧ x.cell? ⟨R, 2, none⟩ = some (.slice fa f f))
            (first | (go_keep; done) | (refine ⟨?_, ?_, ?_⟩ <;> assumption))
            (first
              | (go_at_call 23
                 refine (add_any G (some ⟨W, 0, none⟩) (some ⟨W, k, none⟩) fa k k k k f f wr.drew c13 f13).mono ?_
                 rintro e we ⟨rfl, hst, hone⟩
                 have k0 : we.cell? ⟨R, 0, none⟩ = some (.slice (some ⟨W, 0, none⟩) k k) := (World.cell?_of_block (a := ⟨R, 0, none⟩) (hst.block R hRl hRG)).trans c0
                 have k1 : we.cell? ⟨R, 1, none⟩ = some (.slice (some ⟨W, k, none⟩) k k) := (World.cell?_of_block (a := ⟨R, 1, none⟩) (hst.block R hRl hRG)).trans c1
                 have k2 : we.cell? ⟨R, 2, none⟩ = some (.slice fa f f) := (World.cell?_of_block (a := ⟨R, 2, none⟩) (hst.block R hRl hRG)).trans c2
                 have HE := Hid.mk' (And.intro hst hone)
                 clear hst hone))
          go_wp2_with fail
          go_end0
          refine ⟨rfl, ?_⟩
          rw [← HVp.out]
          exact kept_sparse HJ.out HW.out HE.out.1 HE.out.2 HFn.out HFA.out hl4 (by omega) HK.out HVu.out HFA2.out
end Go.Proofs.Qxb6608693a

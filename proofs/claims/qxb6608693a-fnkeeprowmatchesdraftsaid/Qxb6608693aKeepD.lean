import Derived.Test.Qxb6608693aKeepS
namespace Go.Proofs.Qxb6608693a
open Go.RowKit Go.Deep Srt
set_option linter.unusedVariables false
set_option linter.unusedSimpArgs false

/-- the row is kept: validators V, latest Lv (nl of them), the forked ones -/
def Kept (lo G : Nat) (V : List Nat) (nl : Nat) (Lv : Nat → Int) (FL : List Nat) (w' : World) : Prop :=
  ∃ (a0 a1 a2 : Option Addr) (c0 c1 c2 : Nat), OneRow lo w' G (.slice a0 V.length c0) (.slice a1 nl c1) (.slice a2 FL.length c2) ∧
    Rd w' a0 V.length (fun t => .int .i32 (V.getD t 0 : Nat)) ∧ Rd w' a1 nl (fun t => .int .i32 (Lv t)) ∧ Rd w' a2 FL.length (fun t => .int .i32 (FL.getD t 0 : Nat))
/-- the words of a dense row behind i validators -/
structure Wd (n : Nat) (L : Nat → Int) (F : Nat → Bool) (i : Nat) (gW : Nat → Int) : Prop where
  lat : ∀ j, j < n → gW j = L j
  frk : ∀ t v : Nat, (pick F n)[t]? = some v → t < cnt F i → gW (n + t) = v
theorem Wd.no {n : Nat} {L : Nat → Int} {F : Nat → Bool} {i : Nat} {gW : Nat → Int} (h : Wd n L F i gW) (hF : F i = false) : Wd n L F (i + 1) gW := ⟨h.lat, fun t v h1 h2 => h.frk t v h1 (by rw [cnt_no hF] at h2; exact h2)⟩
theorem Wd.yes {n : Nat} {L : Nat → Int} {F : Nat → Bool} {i : Nat} {gW : Nat → Int} (h : Wd n L F i gW) (hi : i < n) (hF : F i = true) : Wd n L F (i + 1) (fun j => if j = n + cnt F i then (i : Int) else gW j) := by
  refine ⟨fun j hj => ?_, fun t v h1 h2 => ?_⟩
  · rw [if_neg (by omega)]; exact h.lat j hj
  · rw [cnt_yes hF] at h2
    by_cases e : t = cnt F i
    · subst e
      rw [pick_at hi hF] at h1
      cases h1
      simp
    · rw [if_neg (by omega)]; exact h.frk t v h1 (by omega)

theorem OneRow.mono {lo lo' : Nat} {w' : World} {G : Nat} {v0 v1 v2 : Value} (h : OneRow lo w' G v0 v1 v2) (hl : lo' ≤ lo) : OneRow lo' w' G v0 v1 v2 := by
  obtain ⟨RB, RR, cap, h1, h2, h3⟩ := h
  exact ⟨RB, RR, cap, by omega, by omega, h3⟩
theorem kept_dense {lo : Nat} {w wr we : World} {G XB YB R n S f : Nat} {L : Nat → Int} {F : Nat → Bool} {fa : Option Addr} {gW : Nat → Int}
    (J : KD lo w wr G XB YB R n S L F (.slice none 0 0) (.slice (some ⟨R + 1, 0, none⟩) n n) (.slice fa f f) gW) (W : Wd n L F n gW) (st : Step G wr.drew we)
    (one : OneRow wr.drew.heap.size we G (.slice none 0 0) (.slice (some ⟨R + 1, 0, none⟩) n n) (.slice fa f f)) (hf : f = cnt F n) (hfa : f = 0 ∨ fa = some ⟨R + 1, n, none⟩) (hlo : lo ≤ G) (hS : n + f ≤ S) :
    Below lo w we ∧ Kept lo G [] n L (pick F n) we := by
  have hR : R + 1 < wr.heap.size := J.rW.lt
  have hl := J.hlo
  have hG := J.hG
  have rW : we.rowIs (R + 1) 21 S (fun j => .int .i32 (gW j)) := J.rW.of_block (st.block (R + 1) hR (by omega))
  refine ⟨J.below.trans ⟨st.os, st.tape, st.output, st.size, fun k hk => st.block k (show k < wr.heap.size by omega) (by omega)⟩, none, some ⟨R + 1, 0, none⟩, fa, 0, n, f, ?_, Or.inl rfl, ?_, ?_⟩
  · have : (pick F n).length = f := hf.symm
    rw [this]
    exact one.mono (show lo ≤ wr.heap.size by omega)
  · refine Or.inr ⟨R + 1, 0, rfl, fun i hi => ?_⟩
    rw [Nat.zero_add, rW.cell (by omega), W.lat i hi]
  · rcases hfa with h0 | h0
    · exact Or.inl (hf.symm.trans h0)
    · refine Or.inr ⟨R + 1, n, h0, fun t ht => ?_⟩
      have hc : t < cnt F n := ht
      rw [rW.cell (by omega), W.frk t _ (List.getElem?_eq_getElem ht) hc]
      simp [ht]

set_option maxRecDepth 100000 in
set_option maxHeartbeats 4000000 in
theorem keep_dense (lo G XB YB ZB n k : Nat) (L : Nat → Int) (F : Nat → Bool) (p : Nat → Nat) (w : World)
    (hn : 0 < n) (hn2 : n ≤ 65536) (hk2 : k ≤ 65536) (hd : (n : Int) ≤ 2 * (k : Int))
    (pre : Pre w G XB YB ZB n k L F p)
    (hp : ∀ j, j < k → p j < n) (hfk : cnt (fun j => F (p j)) k = cnt F n) (hl1 : lo ≤ XB) (hl2 : lo ≤ YB) (hl3 : lo ≤ ZB) (hl4 : lo ≤ G) (hXG : XB ≠ G) (hYG : YB ≠ G) :
    Calls Try.prog 18 #[.pointer (some ⟨G, 0, none⟩)] w fun e w' => e = .returned (.tuple #[]) ∧ Below lo w w' ∧
      Kept lo G [] n L (pick F n) w' := by
  have HP : Hid (∀ j, j < k → p j < n) := hp
  have HF : Hid (cnt (fun j => F (p j)) k = cnt F n) := hfk
  have HR : Hid (Pre w G XB YB ZB n k L F p) := pre
  have h17 := pre.g.latest
  have h18 := pre.g.forked
  have h19 := pre.g.present
  have hB : Hid (Below lo w w) := Below.refl _ _
  clear hp hfk pre
  have hk0 : (0 : Int) < k := by omega
  go_enter Try.func18, Try.ntmps18
  go_wp2_with fail
  first | go_quiet (fail) | fail
  have HR2 := HR.out.drewN nq
  have HB2 : Hid (Below lo w (w.drewN nq)) := Below.drewN hB.out nq
  replace h17 := HR2.g.latest
  replace h18 := HR2.g.forked
  replace h19 := HR2.g.present
  replace HR2 := Hid.mk' HR2
  generalize w.drewN nq = w2 at HR2 HB2 h17 h18 h19 ⊢
  go_wp2_with fail
  go_loopw [33, 5] (fun vj vf wr => ∃ j : Nat, j ≤ k ∧ vj = .int .i64 j ∧ vf = .int .i64 (cnt (fun j => F (p j)) j) ∧ wr = w2) (fun vj _ _ => k - (intOf vj).toNat)
  case atStart => exact ⟨0, Nat.zero_le _, rfl, rfl, rfl⟩
  case round =>
    obtain ⟨j, hj, rfl, rfl, rfl⟩ := hrel
    by_cases hlt : j < k
    · have c1 := HR2.out.rZ.cell hlt
      have hpj := HP.out j hlt
      have c2 := HR2.out.rY.cell hpj
      have hfj := cnt_le (fun j => F (p j)) j
      cases hFv : F (p j) with
      | true =>
        rw [hFv] at c2
        have e := cnt_yes (q := fun j => F (p j)) (v := j) hFv
        clear hFv
        go_wp2_with fail
        go_roundw
        case rel => exact ⟨j + 1, hlt, by go_num, by rw [e]; go_num, by trivial⟩
        case measure => simp [intOf]; omega
      | false =>
        rw [hFv] at c2
        have e := cnt_no (q := fun j => F (p j)) (v := j) hFv
        clear hFv
        go_wp2_with fail
        go_roundw
        case rel => exact ⟨j + 1, hlt, by go_num, by rw [e], by trivial⟩
        case measure => simp [intOf]; omega
    · have ek : k = j := by omega
      subst ek
      rw [HF.out]
      obtain ⟨f, hf⟩ : ∃ f, f = cnt F n := ⟨_, rfl⟩
      have hfn : f ≤ n := hf ▸ cnt_le F n
      rw [← hf]
      have HFn := Hid.mk' hf
      clear hf
      have h16 := HR2.out.g.block
      have f16 := HR2.out.g.thawed 16
      have hGl : G < wr.heap.size := cell_lt h16
      have h16a : (wr.alloc (.cells #[.slice none 0 0, .slice none 0 0, .slice none 0 0] 69)).cell? ⟨G, 16, none⟩ = some (.slice none 0 0) := by rw [World.cell?_alloc_past _ _ _ hGl]; exact h16
      have f16a : (wr.alloc (.cells #[.slice none 0 0, .slice none 0 0, .slice none 0 0] 69)).frozen? ⟨G, 16, none⟩ = false := by rw [World.frozen?_alloc_old _ _ _ (Nat.ne_of_lt hGl)]; exact f16
      go_wp2_with (go_at_call 21; refine (words_at G (n + f) _ _ (by push_cast; rfl) h16a f16a (by omega) (by omega)).mono ?_; rintro e w3 ⟨rfl, wst, wsz, wcs, wfz, S, hS, rW⟩; have HM := Hid.mk' (kd_first HR2 HB2 wst wcs wfz rW hl4 (by omega) hXG hYG); clear wst wcs wfz rW)
      clear h16 f16 h16a f16a h17 h18 h19 HR2 HR HB2 hB
      simp only [szA] at wsz ⊢
      generalize wr.heap.size = R at HM hGl wsz ⊢
      have cR1 := HM.out.rR.cell (i := 1) (by decide)
      have cR2 := HM.out.rR.cell (i := 2) (by decide)
      have fR1 := HM.out.rR.frozen 1
      have fR2 := HM.out.rR.frozen 2
      have i1 : (n : Int) ≤ ((n + f : Nat) : Int) := by omega
      have i2 : (n : Int) ≤ (n : Int) + (f : Int) := by omega
      have i3 : n ≤ n + f := by omega
      go_region
      obtain ⟨fa, hfa⟩ : ∃ fa, fa = (if f = 0 then some (⟨R + 1, 0, none⟩ : Addr) else some ⟨R + 1, n, none⟩) := ⟨_, rfl⟩
      rw [← hfa]
      have HFA : Hid (f = 0 ∨ fa = some ⟨R + 1, n, none⟩) := by
        by_cases e : f = 0
        · exact Or.inl e
        · exact Or.inr (by rw [hfa, if_neg e])
      clear hfa
      have HM2 := Hid.mk' ((((HM.out.setR 1 (.slice (some ⟨R + 1, 0, none⟩) n n) rfl rfl rfl).setR 2 (.slice fa 0 f) rfl rfl rfl)).drew)
      simp only [reduceIte, show (1 : Nat) = 0 ↔ False by simp, show (2 : Nat) = 0 ↔ False by simp, show (2 : Nat) = 1 ↔ False by simp, show (1 : Nat) = 2 ↔ False by simp] at HM2
      clear cR1 cR2 fR1 fR2 HM
      generalize ((w3.setCell _ _).setCell _ _).drew = w4 at HM2 ⊢
      have cR1 := HM2.out.rR.cell (i := 1) (by decide)
      have cG := HM2.out.c17
      simp only [reduceIte, show (1 : Nat) = 0 ↔ False by simp] at cR1
      have hS' : 0 + n ≤ S := by omega
      go_wp2_with fail
      have hGR : G < R + 1 := by omega
      go_region_held3 (fun x => x.cell? ⟨R, 1, none⟩ = some (.slice (some ⟨R + 1, 0, none⟩) n n) ∧ x.cell? ⟨G, 17, none⟩ = some (.slice (some ⟨XB, 0, none⟩) n n)) (first | (go_keep; done) | (refine ⟨?_, ?_⟩ <;> assumption))
        (first
          | (refine step_copyI rfl (.tmp 67) (.tmp 71) rfl (R + 1) 0 S n n n XB _ L rfl rfl HM2.out.rW (fun i hi => HM2.out.rX.cell hi) hS' ?_
             intro w5 hw5 hb5
             have k1 : w5.cell? ⟨R, 1, none⟩ = some (.slice (some ⟨R + 1, 0, none⟩) n n) := (hb5.out.cell (p := ⟨R, 1, none⟩) (Nat.lt_succ_self R)).trans cR1
             have k2 : w5.cell? ⟨G, 17, none⟩ = some (.slice (some ⟨XB, 0, none⟩) n n) := (hb5.out.cell (p := ⟨G, 17, none⟩) hGR).trans cG))
      have HM3 := HM2.out.drew.words hb5.out hw5.out
      obtain ⟨gW, hgW⟩ : ∃ gW : Nat → Int, gW = fun j => if 0 ≤ j ∧ j < 0 + n then L (j - 0) else (fun _ => (0 : Int)) j := ⟨_, rfl⟩
      rw [← hgW] at HM3
      have HW : Hid (Wd n L F 0 gW) := ⟨fun j hj => by rw [hgW]; simp [hj], fun t v _ h => absurd h (by simp [cnt_zero])⟩
      clear hgW HM2 hw5 hb5 cR1 cG
      replace HM3 := Hid.mk' HM3
      have cF := HM3.out.c18
      go_wp2_with fail
      go_loopw [78] (fun vi wr => ∃ (i : Nat) (gW : Nat → Int), i ≤ n ∧ vi = .int .i64 i ∧ Hid (Wd n L F i gW ∧ KD lo w wr G XB YB R n S L F (.slice none 0 0) (.slice (some ⟨R + 1, 0, none⟩) n n) (.slice fa (cnt F i) f) gW)) (fun vi _ => n - (intOf vi).toNat)
      case atStart => exact ⟨0, gW, Nat.zero_le _, rfl, HW.out, HM3.out⟩
      case round =>
        clear HM3 cF HW gW
        obtain ⟨i, gW, hi, rfl, HI⟩ := hrel
        by_cases hlt : i < n
        · have c1 := HI.out.2.rY.cell hlt
          have hci := cnt_le F i
          cases hFv : F i with
          | true =>
            rw [hFv] at c1
            have hcf : cnt F i < f := by rw [HFn.out]; exact cnt_lt hlt hFv
            have hfa : fa = some ⟨R + 1, n, none⟩ := by
              rcases HFA.out with h | h
              · omega
              · exact h
            subst hfa
            have c2 := HI.out.2.rR.cell (i := 2) (by decide)
            have f2 := HI.out.2.rR.frozen 2
            simp only [reduceIte, show (2 : Nat) = 0 ↔ False by simp, show (2 : Nat) = 1 ↔ False by simp] at c2
            have w32 : IntKind.i32.wrap (i : Int) = (i : Int) := by rw [IntKind.wrap_i32]; omega
            have HFv := Hid.mk' hFv
            clear hFv
            have cW := HI.out.2.rW.cell (i := n + cnt F i) (by omega)
            have fW := HI.out.2.rW.frozen (n + cnt F i)
            have hRl : R + 1 < wr.heap.size := HI.out.2.rW.lt
            have hRl2 : R < wr.heap.size := by omega
            have hroom : cnt F i + 1 ≤ f := hcf
            have e := cnt_yes (q := F) (v := i) HFv.out
            go_wp2_with fail
            go_roundw
            case rel =>
              refine ⟨i + 1, _, hlt, by go_num, HI.out.1.yes hlt HFv.out, ?_⟩
              rw [e]
              exact ((HI.out.2.setW (n + cnt F i) (i : Int)).setR 2 _ rfl rfl rfl).alloc _
            case measure => simp [intOf]; omega
          | false =>
            rw [hFv] at c1
            have e := cnt_no hFv
            have HFv := Hid.mk' hFv
            clear hFv
            go_wp2_with fail
            go_roundw
            case rel => exact ⟨i + 1, gW, hlt, by go_num, HI.out.1.no HFv.out, by rw [e]; exact HI.out.2⟩
            case measure => simp [intOf]; omega
        · have en : n = i := by omega
          have hx := HI.out.2
          have HW := HI.out.1
          rw [← en] at hx HW
          rw [← HFn.out] at hx
          have HJ := Hid.mk' hx
          replace HW := Hid.mk' HW
          have ct : decide ((i : Int) < (n : Int)) = false := by simp; omega
          clear HI hx en
          have c0 := HJ.out.rR.cell (i := 0) (by decide)
          have c1 := HJ.out.rR.cell (i := 1) (by decide)
          have c2 := HJ.out.rR.cell (i := 2) (by decide)
          simp only [reduceIte, show (1 : Nat) = 0 ↔ False by simp, show (2 : Nat) = 0 ↔ False by simp, show (2 : Nat) = 1 ↔ False by simp] at c0 c1 c2
          have c13 := HJ.out.c13
          have f13 := HJ.out.f13
          go_wp2_with fail
          have hRl : R < wr.heap.size := by have := HJ.out.rW.lt; omega
          have hRG : R ≠ G := by omega
          go_region_held3 (fun x => x.cell? ⟨R, 0, none⟩ = some (.slice none 0 0) ∧ x.cell? ⟨R, 1, none⟩ = some (.slice (some ⟨R + 1, 0, none⟩) n n) ∧ x.cell? ⟨R, 2, none⟩ = some (.slice fa f f))
            (first | (go_keep; done) | (refine ⟨?_, ?_, ?_⟩ <;> assumption))
            (first
              | (go_at_call 23
                 refine (add_any G none (some ⟨R + 1, 0, none⟩) fa 0 0 n n f f wr.drew c13 f13).mono ?_
                 rintro e we ⟨rfl, hst, hone⟩
                 have k0 : we.cell? ⟨R, 0, none⟩ = some (.slice none 0 0) := (World.cell?_of_block (a := ⟨R, 0, none⟩) (hst.block R hRl hRG)).trans c0
                 have k1 : we.cell? ⟨R, 1, none⟩ = some (.slice (some ⟨R + 1, 0, none⟩) n n) := (World.cell?_of_block (a := ⟨R, 1, none⟩) (hst.block R hRl hRG)).trans c1
                 have k2 : we.cell? ⟨R, 2, none⟩ = some (.slice fa f f) := (World.cell?_of_block (a := ⟨R, 2, none⟩) (hst.block R hRl hRG)).trans c2
                 have HE := Hid.mk' (And.intro hst hone)
                 clear hst hone))
          go_wp2_with fail
          go_end0
          exact ⟨rfl, kept_dense HJ.out HW.out HE.out.1 HE.out.2 HFn.out HFA.out hl4 (by omega)⟩
end Go.Proofs.Qxb6608693a

import Derived.Test.Qxb6608693aKeepW
namespace Go.Proofs.Qxb6608693a
open Go.RowKit Go.Deep Srt
set_option linter.unusedVariables false
set_option linter.unusedSimpArgs false

/-- the way of an empty draft: every slice of the row is nil -/
structure KN (lo : Nat) (w0 w : World) (G R : Nat) (v1 v2 v3 : Value) : Prop where
  below : Below lo w0 w
  c13 : w.cell? ⟨G, 13, none⟩ = some (.pointer none)
  c17 : w.cell? ⟨G, 17, none⟩ = some v1
  c18 : w.cell? ⟨G, 18, none⟩ = some v2
  c19 : w.cell? ⟨G, 19, none⟩ = some v3
  f13 : w.frozen? ⟨G, 13, none⟩ = false
  rR : w.rowIs R 69 3 (fun _ => .slice none 0 0)
  hG : G < R
  hlo : lo ≤ R
namespace KN
variable {lo : Nat} {w0 w : World} {G R : Nat} {v1 v2 v3 : Value}
theorem drew (h : KN lo w0 w G R v1 v2 v3) : KN lo w0 w.drew G R v1 v2 v3 := ⟨h.below.drew, h.c13, h.c17, h.c18, h.c19, h.f13, h.rR, h.hG, h.hlo⟩
theorem drewN (h : KN lo w0 w G R v1 v2 v3) (q : Nat) : KN lo w0 (w.drewN q) G R v1 v2 v3 := ⟨Below.drewN h.below q, h.c13, h.c17, h.c18, h.c19, h.f13, h.rR.of_block rfl, h.hG, h.hlo⟩
theorem setR (h : KN lo w0 w G R v1 v2 v3) (i : Nat) : KN lo w0 (w.setCell ⟨R, i, none⟩ (.slice none 0 0)) G R v1 v2 v3 := by
  have h1 := h.hG
  refine ⟨h.below.setCell (by exact h.hlo) _, keepS h.c13 (by omega), keepS h.c17 (by omega), keepS h.c18 (by omega), keepS h.c19 (by omega), ?_, (h.rR.set i _).congr fun j _ => by by_cases e : j = i <;> simp [e], h1, h.hlo⟩
  rw [World.frozen?_setCell]; exact h.f13
end KN
theorem kn_first {lo : Nat} {w0 wr : World} {G : Nat} {v1 v2 v3 : Value} (HB : Hid (Below lo w0 wr)) (h13 : wr.cell? ⟨G, 13, none⟩ = some (.pointer none)) (h17 : wr.cell? ⟨G, 17, none⟩ = some v1) (h18 : wr.cell? ⟨G, 18, none⟩ = some v2) (h19 : wr.cell? ⟨G, 19, none⟩ = some v3)
    (f13 : wr.frozen? ⟨G, 13, none⟩ = false) (hlo : lo ≤ G) : KN lo w0 ((wr.setCell ⟨G, 16, none⟩ (.slice none 0 0)).alloc (.cells #[.slice none 0 0, .slice none 0 0, .slice none 0 0] 69)) G wr.heap.size v1 v2 v3 := by
  have hGl : G < wr.heap.size := cell_lt h13
  have hsz : (wr.setCell ⟨G, 16, none⟩ (.slice none 0 0)).heap.size = wr.heap.size := by simp [World.setCell]
  have hGl2 : G < (wr.setCell ⟨G, 16, none⟩ (.slice none 0 0)).heap.size := by omega
  have c : ∀ j, j ≠ 16 → ((wr.setCell ⟨G, 16, none⟩ (.slice none 0 0)).alloc (.cells #[.slice none 0 0, .slice none 0 0, .slice none 0 0] 69)).cell? ⟨G, j, none⟩ = wr.cell? ⟨G, j, none⟩ := fun j hj => by
    rw [World.cell?_alloc_past _ _ _ hGl2, World.cell?_setCell_other _ _ _ _ (by simp)]
  refine ⟨(HB.out.setCell (p := ⟨G, 16, none⟩) (by exact hlo) _).alloc (by omega) _, (c 13 (by decide)).trans h13, (c 17 (by decide)).trans h17, (c 18 (by decide)).trans h18, (c 19 (by decide)).trans h19, ?_, ?_, hGl, by omega⟩
  · rw [World.frozen?_alloc_old _ _ _ (Nat.ne_of_lt hGl2), World.frozen?_setCell]; exact f13
  · have := World.rowIs_alloc (wr.setCell ⟨G, 16, none⟩ (.slice none 0 0)) #[.slice none 0 0, .slice none 0 0, .slice none 0 0] 69 (fun _ => .slice none 0 0) (fun i hi => by
      have : i = 0 ∨ i = 1 ∨ i = 2 := by simp at hi; omega
      rcases this with rfl | rfl | rfl <;> rfl)
    rw [hsz] at this
    exact this
theorem kept_none {lo : Nat} {w wr we : World} {G R : Nat} {L : Nat → Int} {v1 v2 v3 : Value} (J : KN lo w wr G R v1 v2 v3) (st : Step G wr.drew we) (one : OneRow wr.drew.heap.size we G (.slice none 0 0) (.slice none 0 0) (.slice none 0 0)) (hlo : lo ≤ G) :
    Below lo w we ∧ Kept lo G [] 0 L [] we := by
  have hR : R < wr.heap.size := J.rR.lt
  have hl := J.hlo
  exact ⟨J.below.trans ⟨st.os, st.tape, st.output, st.size, fun k hk => st.block k (show k < wr.heap.size by omega) (by omega)⟩, none, none, none, 0, 0, 0, one.mono (show lo ≤ wr.heap.size by omega), Or.inl rfl, Or.inl rfl, Or.inl rfl⟩
/-- nothing is copied -/
theorem step_copy0 {ops : Array Oper} {o : Oper} {a : Act} {w : World} {K : Act → World → Prop} {Q : Exit → Act → World → Prop} {E : Prop} (hgd : o.guard = none) (d s : Operand)
    (ho : o.op = .call { callee := .builtin .copy, args := #[d, s], argTypes := #[22, 22] }) (dp sp : Option Addr) (m c1 c2 : Nat) (hd : a.eval d = .slice dp 0 c1) (hs : a.eval s = .slice sp m c2) (h : K (a.put o.dst (goInt 0)) w) :
    if Region.wanted o (yielded ops a.tmps) = true then Oper.wp Try.prog o a w K Q else E := by
  have hw : Region.wanted o (yielded ops a.tmps) = true := by simp [Region.wanted, hgd]
  rw [if_pos hw]
  have hrun := run_copy_none (P := Try.prog) w 22 22 o.type 21 dp sp 0 c1 m c2 Try.underlying22 Try.size21 (by simp)
  unfold Oper.wp
  simp [execOp, ho, resolve, invoke, builtin, hd, hs, hrun, Result.andThen]
  exact h

set_option maxRecDepth 100000 in
set_option maxHeartbeats 4000000 in
theorem keep_none (lo G : Nat) (x0 y z : Option Addr) (L : Nat → Int) (w : World) (g : GAt w G (.slice x0 0 0) (.slice y 0 0) (.slice z 0 0)) (hl4 : lo ≤ G) :
    Calls Try.prog 18 #[.pointer (some ⟨G, 0, none⟩)] w fun e w' => e = .returned (.tuple #[]) ∧ Below lo w w' ∧ Kept lo G [] 0 L [] w' := by
  have HG := Hid.mk' g
  have h17 := g.latest
  have h18 := g.forked
  have h19 := g.present
  clear g
  go_enter Try.func18, Try.ntmps18
  go_wp2_with fail
  first | go_quiet (fail) | fail
  have HG2 := HG.out.drewN nq
  have HB2 : Hid (Below lo w (w.drewN nq)) := Below.drewN (Below.refl _ _) nq
  replace h17 := HG2.latest
  replace h18 := HG2.forked
  replace h19 := HG2.present
  have h16 := HG2.block
  have f16 := HG2.thawed 16
  have h13 := HG2.rows
  have f13 := HG2.thawed 13
  clear HG2 HG
  generalize w.drewN nq = w2 at HB2 h13 f13 h16 f16 h17 h18 h19 ⊢
  go_wp2_with fail
  go_loopw [33, 5] (fun vj vf wr => vj = .int .i64 0 ∧ vf = .int .i64 0 ∧ wr = w2) (fun vj _ _ => 0)
  case atStart => exact ⟨rfl, rfl, rfl⟩
  case round =>
    obtain ⟨rfl, rfl, rfl⟩ := hrel
    have hGl : G < wr.heap.size := cell_lt h16
    have h16a : (wr.alloc (.cells #[.slice none 0 0, .slice none 0 0, .slice none 0 0] 69)).cell? ⟨G, 16, none⟩ = some (.slice none 0 0) := by rw [World.cell?_alloc_past _ _ _ hGl]; exact h16
    have f16a : (wr.alloc (.cells #[.slice none 0 0, .slice none 0 0, .slice none 0 0] 69)).frozen? ⟨G, 16, none⟩ = false := by rw [World.frozen?_alloc_old _ _ _ (Nat.ne_of_lt hGl)]; exact f16
    go_wp2_with (go_at_call 21; refine (words_zero G _ h16a f16a).mono ?_; rintro e w3 ⟨rfl, rfl⟩)
    have HN := Hid.mk' (kn_first HB2 h13 h17 h18 h19 f13 hl4)
    clear HB2 h13 h17 h18 h19 f13 h16 f16 h16a f16a
    generalize (wr.setCell _ _).alloc _ = w3 at HN ⊢
    generalize wr.heap.size = R at HN hGl ⊢
    have cR1 := HN.out.rR.cell (i := 1) (by decide)
    have cR2 := HN.out.rR.cell (i := 2) (by decide)
    have fR1 := HN.out.rR.frozen 1
    have fR2 := HN.out.rR.frozen 2
    go_region
    have HN2 := Hid.mk' ((HN.out.setR 1).setR 2).drew
    clear HN cR1 cR2 fR1 fR2
    generalize ((w3.setCell _ _).setCell _ _).drew = w4 at HN2 ⊢
    have cR1 := HN2.out.rR.cell (i := 1) (by decide)
    have cG := HN2.out.c17
    go_wp2_with fail
    go_region_held3 (fun x => x.cell? ⟨R, 1, none⟩ = some (.slice none 0 0) ∧ x.cell? ⟨G, 17, none⟩ = some (.slice x0 0 0)) (first | (go_keep; done) | (refine ⟨?_, ?_⟩ <;> assumption))
      (first | (refine step_copy0 rfl (.tmp 67) (.tmp 71) rfl _ _ _ _ _ rfl rfl ?_))
    have HN3 := Hid.mk' HN2.out.drew
    clear HN2 cR1 cG
    generalize w4.drew = w5 at HN3 ⊢
    have cF := HN3.out.c18
    go_wp2_with fail
    clear cF
    go_loopw [78] (fun vi wr => vi = .int .i64 0 ∧ wr = w5) (fun _ _ => 0)
    case atStart => exact ⟨rfl, rfl⟩
    case round =>
      obtain ⟨rfl, rfl⟩ := hrel
      have c0 := HN3.out.rR.cell (i := 0) (by decide)
      have c1 := HN3.out.rR.cell (i := 1) (by decide)
      have c2 := HN3.out.rR.cell (i := 2) (by decide)
      have c13 := HN3.out.c13
      have f13 := HN3.out.f13
      go_wp2_with fail
      have hRl : R < wr.heap.size := HN3.out.rR.lt
      have hRG : R ≠ G := by omega
      go_region_held3 (fun x => x.cell? ⟨R, 0, none⟩ = some (.slice none 0 0) ∧ x.cell? ⟨R, 1, none⟩ = some (.slice none 0 0) ∧ x.cell? ⟨R, 2, none⟩ = some (.slice none 0 0))
        (first | (go_keep; done) | (refine ⟨?_, ?_, ?_⟩ <;> assumption))
        (first
          | (go_at_call 23
             refine (add_any G none none none 0 0 0 0 0 0 wr.drew c13 f13).mono ?_
             rintro e we ⟨rfl, hst, hone⟩
             have k0 : we.cell? ⟨R, 0, none⟩ = some (.slice none 0 0) := (World.cell?_of_block (a := ⟨R, 0, none⟩) (hst.block R hRl hRG)).trans c0
             have k1 : we.cell? ⟨R, 1, none⟩ = some (.slice none 0 0) := (World.cell?_of_block (a := ⟨R, 1, none⟩) (hst.block R hRl hRG)).trans c1
             have k2 : we.cell? ⟨R, 2, none⟩ = some (.slice none 0 0) := (World.cell?_of_block (a := ⟨R, 2, none⟩) (hst.block R hRl hRG)).trans c2
             have HE := Hid.mk' (And.intro hst hone)
             clear hst hone))
      go_wp2_with fail
      go_end0
      exact ⟨rfl, kept_none HN3.out HE.out.1 HE.out.2 hl4⟩

set_option maxRecDepth 100000 in
set_option maxHeartbeats 4000000 in
theorem keep_empty (lo G : Nat) (n : Nat) (x0 y z : Option Addr) (L : Nat → Int) (w : World) (hn : (0 : Int) < n) (hn2 : n ≤ 65536) (g : GAt w G (.slice x0 n n) (.slice y n n) (.slice z 0 0)) (hl4 : lo ≤ G) :
    Calls Try.prog 18 #[.pointer (some ⟨G, 0, none⟩)] w fun e w' => e = .returned (.tuple #[]) ∧ Below lo w w' ∧ Kept lo G [] 0 L [] w' := by
  have HG := Hid.mk' g
  have h17 := g.latest
  have h18 := g.forked
  have h19 := g.present
  clear g
  go_enter Try.func18, Try.ntmps18
  go_wp2_with fail
  first | go_quiet (fail) | fail
  have HG2 := HG.out.drewN nq
  have HB2 : Hid (Below lo w (w.drewN nq)) := Below.drewN (Below.refl _ _) nq
  replace h17 := HG2.latest
  replace h18 := HG2.forked
  replace h19 := HG2.present
  have h16 := HG2.block
  have f16 := HG2.thawed 16
  have h13 := HG2.rows
  have f13 := HG2.thawed 13
  clear HG2 HG
  generalize w.drewN nq = w2 at HB2 h13 f13 h16 f16 h17 h18 h19 ⊢
  go_wp2_with fail
  go_loopw [33, 5] (fun vj vf wr => vj = .int .i64 0 ∧ vf = .int .i64 0 ∧ wr = w2) (fun vj _ _ => 0)
  case atStart => exact ⟨rfl, rfl, rfl⟩
  case round =>
    obtain ⟨rfl, rfl, rfl⟩ := hrel
    have hGl : G < wr.heap.size := cell_lt h16
    have hd : ¬ (n : Int) ≤ 0 := by omega
    go_wp2_with (first
      | (go_at_call 22; refine (sort_nil z 0 _).mono ?_; rintro e ws ⟨rfl, rfl⟩
         have h16a : (wr.alloc (.cells #[.slice none 0 0, .slice none 0 0, .slice none 0 0] 69)).cell? ⟨G, 16, none⟩ = some (.slice none 0 0) := by rw [World.cell?_alloc_past _ _ _ hGl]; exact h16
         have f16a : (wr.alloc (.cells #[.slice none 0 0, .slice none 0 0, .slice none 0 0] 69)).frozen? ⟨G, 16, none⟩ = false := by rw [World.frozen?_alloc_old _ _ _ (Nat.ne_of_lt hGl)]; exact f16)
      | (go_at_call 21; refine (words_zero G _ h16a f16a).mono ?_; rintro e w3 ⟨rfl, rfl⟩))
    have HN := Hid.mk' (kn_first HB2 h13 h17 h18 h19 f13 hl4)
    clear HB2 h13 h17 h18 h19 f13 h16 f16 h16a f16a
    generalize (wr.setCell _ _).alloc _ = w3 at HN ⊢
    generalize wr.heap.size = R at HN hGl ⊢
    have cR0 := HN.out.rR.cell (i := 0) (by decide)
    have cR1 := HN.out.rR.cell (i := 1) (by decide)
    have cR2 := HN.out.rR.cell (i := 2) (by decide)
    have fR0 := HN.out.rR.frozen 0
    have fR1 := HN.out.rR.frozen 1
    have fR2 := HN.out.rR.frozen 2
    go_region
    have HN2 := Hid.mk' (((HN.out.setR 0).setR 1).setR 2).drew
    clear HN cR0 cR1 cR2 fR0 fR1 fR2
    generalize (((w3.setCell _ _).setCell _ _).setCell _ _).drew = w4 at HN2 ⊢
    have cR0 := HN2.out.rR.cell (i := 0) (by decide)
    have cG := HN2.out.c19
    go_wp2_with fail
    go_region_held3 (fun x => x.cell? ⟨R, 0, none⟩ = some (.slice none 0 0) ∧ x.cell? ⟨G, 19, none⟩ = some (.slice z 0 0)) (first | (go_keep; done) | (refine ⟨?_, ?_⟩ <;> assumption))
      (first | (refine step_copy0 rfl (.tmp 124) (.tmp 128) rfl _ _ _ _ _ rfl rfl ?_))
    have HN3 := Hid.mk' HN2.out.drew
    clear HN2 cR0 cG
    generalize w4.drew = w5 at HN3 ⊢
    have cF := HN3.out.c19
    go_wp2_with fail
    clear cF
    go_loopw [135] (fun vi wr => vi = .int .i64 0 ∧ wr = w5) (fun _ _ => 0)
    case atStart => exact ⟨rfl, rfl⟩
    case round =>
      obtain ⟨rfl, rfl⟩ := hrel
      have c0 := HN3.out.rR.cell (i := 0) (by decide)
      have c1 := HN3.out.rR.cell (i := 1) (by decide)
      have c2 := HN3.out.rR.cell (i := 2) (by decide)
      have c13 := HN3.out.c13
      have f13 := HN3.out.f13
      go_wp2_with fail
      have hRl : R < wr.heap.size := HN3.out.rR.lt
      have hRG : R ≠ G := by omega
      go_region_held3 (fun x => x.cell? ⟨R, 0, none⟩ = some (.slice none 0 0) ∧ x.cell? ⟨R, 1, none⟩ = some (.slice none 0 0) ∧ x.cell? ⟨R, 2, none⟩ = some (.slice none 0 0))
        (first | (go_keep; done) | (refine ⟨?_, ?_, ?_⟩ <;> assumption))
        (first
          | (go_at_call 23
             refine (add_any G none none none 0 0 0 0 0 0 wr.drew c13 f13).mono ?_
             rintro e we ⟨rfl, hst, hone⟩
             have k0 : we.cell? ⟨R, 0, none⟩ = some (.slice none 0 0) := (World.cell?_of_block (a := ⟨R, 0, none⟩) (hst.block R hRl hRG)).trans c0
             have k1 : we.cell? ⟨R, 1, none⟩ = some (.slice none 0 0) := (World.cell?_of_block (a := ⟨R, 1, none⟩) (hst.block R hRl hRG)).trans c1
             have k2 : we.cell? ⟨R, 2, none⟩ = some (.slice none 0 0) := (World.cell?_of_block (a := ⟨R, 2, none⟩) (hst.block R hRl hRG)).trans c2
             have HE := Hid.mk' (And.intro hst hone)
             clear hst hone))
      go_wp2_with fail
      go_end0
      exact ⟨rfl, kept_none HN3.out HE.out.1 HE.out.2 hl4⟩
end Go.Proofs.Qxb6608693a

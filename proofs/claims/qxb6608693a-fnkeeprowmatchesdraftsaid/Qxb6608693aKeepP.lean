import Derived.Test.Qxb6608693aKeepD
import Derived.Test.Qxb6608693aVals
namespace Go.Proofs.Qxb6608693a
open Go.RowKit Go.Deep Srt
set_option linter.unusedVariables false
set_option linter.unusedSimpArgs false

/-- what the sparse half of keepRow holds: the graph's cells, the draft, the row R under way, the words W -/
structure KP (lo : Nat) (w0 w : World) (G XB YB ZB R W n k S : Nat) (L : Nat → Int) (F : Nat → Bool) (zs : Nat → Int) (v0 v1 v2 : Value) (gW : Nat → Int) : Prop where
  below : Below lo w0 w
  c13 : w.cell? ⟨G, 13, none⟩ = some (.pointer none)
  c17 : w.cell? ⟨G, 17, none⟩ = some (.slice (some ⟨XB, 0, none⟩) n n)
  c18 : w.cell? ⟨G, 18, none⟩ = some (.slice (some ⟨YB, 0, none⟩) n n)
  c19 : w.cell? ⟨G, 19, none⟩ = some (.slice (some ⟨ZB, 0, none⟩) k k)
  f13 : w.frozen? ⟨G, 13, none⟩ = false
  rX : w.rowIs XB 21 n (fun i => .int .i32 (L i))
  rY : w.rowIs YB 4 n (fun i => .bool (F i))
  rZ : w.rowIs ZB 21 k (fun i => .int .i32 (zs i))
  rR : w.rowIs R 69 3 (fun j => if j = 0 then v0 else if j = 1 then v1 else v2)
  rW : w.rowIs W 21 S (fun j => .int .i32 (gW j))
  hG : G < R
  hX : XB < R
  hY : YB < R
  hZ : ZB < R
  hRW : R < W
  hlo : lo ≤ R
namespace KP
variable {lo : Nat} {w0 w : World} {G XB YB ZB R W n k S : Nat} {L : Nat → Int} {F : Nat → Bool} {zs : Nat → Int} {v0 v1 v2 : Value} {gW : Nat → Int}
theorem drew (h : KP lo w0 w G XB YB ZB R W n k S L F zs v0 v1 v2 gW) : KP lo w0 w.drew G XB YB ZB R W n k S L F zs v0 v1 v2 gW :=
  ⟨h.below.drew, h.c13, h.c17, h.c18, h.c19, h.f13, h.rX, h.rY, h.rZ, h.rR, h.rW, h.hG, h.hX, h.hY, h.hZ, h.hRW, h.hlo⟩
/-- blocks below W as they were, W said anew -/
theorem words {w' : World} {gW' : Nat → Int} (h : KP lo w0 w G XB YB ZB R W n k S L F zs v0 v1 v2 gW) (b : Below W w w') (r : w'.rowIs W 21 S (fun j => .int .i32 (gW' j))) : KP lo w0 w' G XB YB ZB R W n k S L F zs v0 v1 v2 gW' := by
  have h1 := h.hG
  have h2 := h.hX
  have h3 := h.hY
  have h4 := h.hlo
  have h5 := h.hZ
  have h6 := h.hRW
  exact ⟨h.below.trans (b.mono (by omega)), (b.cell (p := ⟨G, 13, none⟩) (by show G < _; omega)).trans h.c13, (b.cell (p := ⟨G, 17, none⟩) (by show G < _; omega)).trans h.c17, (b.cell (p := ⟨G, 18, none⟩) (by show G < _; omega)).trans h.c18,
    (b.cell (p := ⟨G, 19, none⟩) (by show G < _; omega)).trans h.c19, (b.frozen (p := ⟨G, 13, none⟩) (by show G < _; omega)).trans h.f13, h.rX.of_block (b.block _ (by omega)), h.rY.of_block (b.block _ (by omega)), h.rZ.of_block (b.block _ (by omega)), h.rR.of_block (b.block _ (by omega)), r, h1, h2, h3, h5, h6, h4⟩
theorem setW (h : KP lo w0 w G XB YB ZB R W n k S L F zs v0 v1 v2 gW) (i : Nat) (x : Int) : KP lo w0 (w.setCell ⟨W, i, none⟩ (.int .i32 x)) G XB YB ZB R W n k S L F zs v0 v1 v2 (fun j => if j = i then x else gW j) :=
  h.words ((Below.refl W w).setCell (p := ⟨W, i, none⟩) (Nat.le_refl _) _) ((h.rW.set i _).congr fun j _ => by by_cases e : j = i <;> simp [e])
theorem alloc (h : KP lo w0 w G XB YB ZB R W n k S L F zs v0 v1 v2 gW) (o : Obj) : KP lo w0 (w.alloc o) G XB YB ZB R W n k S L F zs v0 v1 v2 gW :=
  h.words ((Below.refl _ _).alloc (by have := h.rW.lt; omega) _) (h.rW.alloc _)
theorem setR (h : KP lo w0 w G XB YB ZB R W n k S L F zs v0 v1 v2 gW) (i : Nat) (v : Value) {v0' v1' v2' : Value} (e0 : v0' = if i = 0 then v else v0) (e1 : v1' = if i = 1 then v else v1) (e2 : v2' = if i = 2 then v else v2) :
    KP lo w0 (w.setCell ⟨R, i, none⟩ v) G XB YB ZB R W n k S L F zs v0' v1' v2' gW := by
  have h1 := h.hG
  have h2 := h.hX
  have h3 := h.hY
  have h4 := h.hlo
  have h5 := h.hZ
  have h6 := h.hRW
  subst e0 e1 e2
  refine ⟨h.below.setCell (by exact h4) _, keepS h.c13 (by omega), keepS h.c17 (by omega), keepS h.c18 (by omega), keepS h.c19 (by omega), ?_, h.rX.setOther (by show XB ≠ R; omega) _, h.rY.setOther (by show YB ≠ R; omega) _, h.rZ.setOther (by show ZB ≠ R; omega) _, ?_, h.rW.setOther (by show W ≠ R; omega) _, h1, h2, h3, h5, h6, h4⟩
  · rw [World.frozen?_setCell]; exact h.f13
  · refine (h.rR.set i v).congr fun j hj => ?_
    have : j = 0 ∨ j = 1 ∨ j = 2 := by omega
    rcases this with rfl | rfl | rfl
    · by_cases e : i = 0
      · simp [e]
      · simp [e, Ne.symm e]
    · by_cases e : i = 1
      · simp [e]
      · simp [e, Ne.symm e]
    · by_cases e : i = 2
      · simp [e]
      · simp [e, Ne.symm e]
theorem zsCongr {zs' : Nat → Int} (h : KP lo w0 w G XB YB ZB R W n k S L F zs v0 v1 v2 gW) (e : ∀ i, i < k → zs i = zs' i) : KP lo w0 w G XB YB ZB R W n k S L F zs' v0 v1 v2 gW :=
  ⟨h.below, h.c13, h.c17, h.c18, h.c19, h.f13, h.rX, h.rY, h.rZ.congr (fun i hi => by rw [e i hi]), h.rR, h.rW, h.hG, h.hX, h.hY, h.hZ, h.hRW, h.hlo⟩
end KP

/-- behind the sort -/
structure Sd (lo : Nat) (w0 wr ws : World) (G XB YB ZB n k : Nat) (L : Nat → Int) (F : Nat → Bool) (zs : Nat → Int) : Prop where
  below : Below lo w0 ws
  graph : ws.heap[G]? = wr.heap[G]?
  size : wr.heap.size < ws.heap.size
  rX : ws.rowIs XB 21 n (fun i => .int .i32 (L i))
  rY : ws.rowIs YB 4 n (fun i => .bool (F i))
  rZ : ws.rowIs ZB 21 k (fun i => .int .i32 (zs i))
  rR : ws.rowIs wr.heap.size 69 3 (fun j => if j = 0 then .slice none 0 0 else if j = 1 then .slice none 0 0 else .slice none 0 0)
theorem sd_first {lo : Nat} {w0 wr ws : World} {G XB YB ZB n k : Nat} {L : Nat → Int} {F : Nat → Bool} {p : Nat → Nat} {zs : Nat → Int} (HR : Hid (Pre wr G XB YB ZB n k L F p)) (HB : Hid (Below lo w0 wr))
    (st : Step ZB (wr.alloc (.cells #[.slice none 0 0, .slice none 0 0, .slice none 0 0] 69)) ws) (rZ : Row ws ZB k zs) (hlo : lo ≤ ZB) (hlo2 : lo ≤ wr.heap.size) (hXZ : XB ≠ ZB) (hYZ : YB ≠ ZB) (hGZ : G ≠ ZB) :
    Sd lo w0 wr ws G XB YB ZB n k L F zs := by
  have R := HR.out
  have hGl : G < wr.heap.size := cell_lt R.g.rows
  have hZl : ZB < wr.heap.size := R.rZ.lt
  have hs : (wr.alloc (.cells #[.slice none 0 0, .slice none 0 0, .slice none 0 0] 69)).heap.size = wr.heap.size + 1 := szA _ _
  have blk : ∀ b, b < wr.heap.size + 1 → b ≠ ZB → ws.heap[b]? = (wr.alloc (.cells #[.slice none 0 0, .slice none 0 0, .slice none 0 0] 69)).heap[b]? := fun b h1 h2 => st.block b (by rw [hs]; exact h1) h2
  refine ⟨?_, (blk G (by omega) hGZ).trans (Below.heap_alloc _ _ _ hGl), by have := st.size; omega, ?_, ?_, rZ, ?_⟩
  · exact Below.trans HB.out ⟨st.os, st.tape, st.output, Nat.le_trans (by rw [hs]; omega) st.size, fun b hb => (blk b (by omega) (by omega)).trans (Below.heap_alloc _ _ _ (by omega))⟩
  · exact (R.rX.alloc _).of_block (blk _ (by have := R.rX.lt; omega) hXZ)
  · exact (R.rY.alloc _).of_block (blk _ (by have := R.rY.lt; omega) hYZ)
  · exact (World.rowIs_alloc wr #[.slice none 0 0, .slice none 0 0, .slice none 0 0] 69 (fun j => if j = 0 then .slice none 0 0 else if j = 1 then .slice none 0 0 else .slice none 0 0) (fun i hi => by
      have : i = 0 ∨ i = 1 ∨ i = 2 := by simp at hi; omega
      rcases this with rfl | rfl | rfl <;> rfl)).of_block (blk _ (by omega) (by omega))
theorem kp_first {lo : Nat} {w0 wr ws w3 : World} {G XB YB ZB n k S : Nat} {L : Nat → Int} {F : Nat → Bool} {p : Nat → Nat} {zs : Nat → Int} (HR : Hid (Pre wr G XB YB ZB n k L F p)) (HS : Hid (Sd lo w0 wr ws G XB YB ZB n k L F zs))
    (st : Step G ws w3) (cs : ∀ j, j ≠ 16 → w3.cell? ⟨G, j, none⟩ = ws.cell? ⟨G, j, none⟩) (fz : ∀ a : Addr, a.block < ws.heap.size → w3.frozen? a = ws.frozen? a)
    (rW : w3.rowIs ws.heap.size 21 S (fun _ => .int .i32 0)) (hlo : lo ≤ G) (hlo2 : lo ≤ wr.heap.size) (hXG : XB ≠ G) (hYG : YB ≠ G) (hZG : ZB ≠ G) :
    KP lo w0 w3 G XB YB ZB wr.heap.size ws.heap.size n k S L F zs (.slice none 0 0) (.slice none 0 0) (.slice none 0 0) (fun _ => 0) := by
  have R := HR.out
  have D := HS.out
  have hGl : G < wr.heap.size := cell_lt R.g.rows
  have hsz := D.size
  have hX := R.rX.lt
  have hY := R.rY.lt
  have hZ := R.rZ.lt
  have gc : ∀ j, j ≠ 16 → w3.cell? ⟨G, j, none⟩ = wr.cell? ⟨G, j, none⟩ := fun j hj => (cs j hj).trans (World.cell?_of_block (a := ⟨G, j, none⟩) D.graph)
  refine ⟨D.below.trans ⟨st.os, st.tape, st.output, st.size, fun b hb => st.block b (by omega) (by omega)⟩, (gc 13 (by decide)).trans R.g.rows, (gc 17 (by decide)).trans R.g.latest, (gc 18 (by decide)).trans R.g.forked, (gc 19 (by decide)).trans R.g.present, ?_,
    D.rX.of_block (st.block _ (by omega) hXG), D.rY.of_block (st.block _ (by omega) hYG), D.rZ.of_block (st.block _ (by omega) hZG), D.rR.of_block (st.block _ (by omega) (by omega)), rW, hGl, hX, hY, hZ, hsz, hlo2⟩
  rw [fz _ (by show G < _; omega)]
  exact (World.frozen?_of_block (a := ⟨G, 13, none⟩) D.graph).trans (R.g.thawed 13)
end Go.Proofs.Qxb6608693a

import Derived.Test.Qxb6608693aRead
import Derived.Test.Qxb6608693aLists
import Derived.Test.Qxb6608693aSort
import Derived.Laws.CopyOwn
import Derived.Lib.JoinLaws
import Derived.Deep.CutRange
namespace Go.Proofs.Qxb6608693a
open Go.RowKit Go.Deep Srt
set_option linter.unusedVariables false
set_option linter.unusedSimpArgs false

theorem words_at (G N : Nat) (z : Int) (w : World) (hz : z = (N : Int)) (h : w.cell? ⟨G, 16, none⟩ = some (.slice none 0 0)) (hf : w.frozen? ⟨G, 16, none⟩ = false) (hN : 0 < N) (hN2 : N ≤ 200000) :
    Calls Try.prog 21 #[.pointer (some ⟨G, 0, none⟩), .int .i64 z] w fun e w' => e = .returned (.slice (some ⟨w.heap.size, 0, none⟩) N N) ∧ Step G w w' ∧ w'.heap.size = w.heap.size + 1 ∧
      (∀ j, j ≠ 16 → w'.cell? ⟨G, j, none⟩ = w.cell? ⟨G, j, none⟩) ∧ (∀ a, a.block < w.heap.size → w'.frozen? a = w.frozen? a) ∧ ∃ S, N ≤ S ∧ w'.rowIs w.heap.size 21 S (fun _ => .int .i32 0) := by
  subst hz; exact words_any G N w h hf hN hN2

/-- all that keepRow reads -/
structure Pre (w : World) (G XB YB ZB n k : Nat) (L : Nat → Int) (F : Nat → Bool) (p : Nat → Nat) : Prop where
  g : GAt w G (.slice (some ⟨XB, 0, none⟩) n n) (.slice (some ⟨YB, 0, none⟩) n n) (.slice (some ⟨ZB, 0, none⟩) k k)
  rX : w.rowIs XB 21 n (fun i => .int .i32 (L i))
  rY : w.rowIs YB 4 n (fun i => .bool (F i))
  rZ : w.rowIs ZB 21 k (fun i => .int .i32 (p i : Int))
theorem GAt.drewN {w : World} {G : Nat} {v1 v2 v3 : Value} (h : GAt w G v1 v2 v3) (q : Nat) : GAt (w.drewN q) G v1 v2 v3 := ⟨h.rows, h.block, h.latest, h.forked, h.present, h.thawed⟩
theorem Pre.drewN {w : World} {G XB YB ZB n k : Nat} {L : Nat → Int} {F : Nat → Bool} {p : Nat → Nat} (h : Pre w G XB YB ZB n k L F p) (q : Nat) : Pre (w.drewN q) G XB YB ZB n k L F p :=
  ⟨h.g.drewN q, h.rX.of_block rfl, h.rY.of_block rfl, h.rZ.of_block rfl⟩
theorem Below.drewN {B : Nat} {a w : World} (h : Below B a w) (q : Nat) : Below B a (w.drewN q) := ⟨h.os, h.tape, h.output, h.size, h.block⟩


theorem Try.size21 : (Try.prog.info? 21).map (·.size) = some 1 := by kernel_rfl

/-- what keepRow's second half holds: the graph's cells, the draft, the row R under way, the words R + 1 -/
structure KD (lo : Nat) (w0 w : World) (G XB YB R n S : Nat) (L : Nat → Int) (F : Nat → Bool) (v0 v1 v2 : Value) (gW : Nat → Int) : Prop where
  below : Below lo w0 w
  c13 : w.cell? ⟨G, 13, none⟩ = some (.pointer none)
  c17 : w.cell? ⟨G, 17, none⟩ = some (.slice (some ⟨XB, 0, none⟩) n n)
  c18 : w.cell? ⟨G, 18, none⟩ = some (.slice (some ⟨YB, 0, none⟩) n n)
  f13 : w.frozen? ⟨G, 13, none⟩ = false
  rX : w.rowIs XB 21 n (fun i => .int .i32 (L i))
  rY : w.rowIs YB 4 n (fun i => .bool (F i))
  rR : w.rowIs R 69 3 (fun j => if j = 0 then v0 else if j = 1 then v1 else v2)
  rW : w.rowIs (R + 1) 21 S (fun j => .int .i32 (gW j))
  hG : G < R
  hX : XB < R
  hY : YB < R
  hlo : lo ≤ R
namespace KD
variable {lo : Nat} {w0 w : World} {G XB YB R n S : Nat} {L : Nat → Int} {F : Nat → Bool} {v0 v1 v2 : Value} {gW : Nat → Int}
theorem drew (h : KD lo w0 w G XB YB R n S L F v0 v1 v2 gW) : KD lo w0 w.drew G XB YB R n S L F v0 v1 v2 gW :=
  ⟨h.below.drew, h.c13, h.c17, h.c18, h.f13, h.rX, h.rY, h.rR, h.rW, h.hG, h.hX, h.hY, h.hlo⟩
/-- blocks up to R as they were, R + 1 said anew -/
theorem words {w' : World} {gW' : Nat → Int} (h : KD lo w0 w G XB YB R n S L F v0 v1 v2 gW) (b : Below (R + 1) w w') (r : w'.rowIs (R + 1) 21 S (fun j => .int .i32 (gW' j))) : KD lo w0 w' G XB YB R n S L F v0 v1 v2 gW' := by
  have h1 := h.hG
  have h2 := h.hX
  have h3 := h.hY
  have h4 := h.hlo
  exact ⟨h.below.trans (b.mono (by omega)), (b.cell (p := ⟨G, 13, none⟩) (by show G < _; omega)).trans h.c13, (b.cell (p := ⟨G, 17, none⟩) (by show G < _; omega)).trans h.c17, (b.cell (p := ⟨G, 18, none⟩) (by show G < _; omega)).trans h.c18,
    (b.frozen (p := ⟨G, 13, none⟩) (by show G < _; omega)).trans h.f13, h.rX.of_block (b.block _ (by omega)), h.rY.of_block (b.block _ (by omega)), h.rR.of_block (b.block _ (by omega)), r, h1, h2, h3, h4⟩
theorem setW (h : KD lo w0 w G XB YB R n S L F v0 v1 v2 gW) (i : Nat) (x : Int) : KD lo w0 (w.setCell ⟨R + 1, i, none⟩ (.int .i32 x)) G XB YB R n S L F v0 v1 v2 (fun j => if j = i then x else gW j) :=
  h.words ((Below.refl (R + 1) w).setCell (p := ⟨R + 1, i, none⟩) (Nat.le_refl _) _) ((h.rW.set i _).congr fun j _ => by by_cases e : j = i <;> simp [e])
theorem alloc (h : KD lo w0 w G XB YB R n S L F v0 v1 v2 gW) (o : Obj) : KD lo w0 (w.alloc o) G XB YB R n S L F v0 v1 v2 gW :=
  h.words ((Below.refl _ _).alloc (by have := h.rW.lt; omega) _) (h.rW.alloc _)
theorem setR (h : KD lo w0 w G XB YB R n S L F v0 v1 v2 gW) (i : Nat) (v : Value) {v0' v1' v2' : Value} (e0 : v0' = if i = 0 then v else v0) (e1 : v1' = if i = 1 then v else v1) (e2 : v2' = if i = 2 then v else v2) :
    KD lo w0 (w.setCell ⟨R, i, none⟩ v) G XB YB R n S L F v0' v1' v2' gW := by
  have h1 := h.hG
  have h2 := h.hX
  have h3 := h.hY
  have h4 := h.hlo
  subst e0 e1 e2
  refine ⟨h.below.setCell (by exact h4) _, keepS h.c13 (by omega), keepS h.c17 (by omega), keepS h.c18 (by omega), ?_, h.rX.setOther (by show XB ≠ R; omega) _, h.rY.setOther (by show YB ≠ R; omega) _, ?_, h.rW.setOther (by show R + 1 ≠ R; omega) _, h1, h2, h3, h4⟩
  · rw [World.frozen?_setCell]; exact h.f13
  · refine (h.rR.set i v).congr fun j hj => ?_
    have : j = 0 ∨ j = 1 ∨ j = 2 := by omega
    rcases this with rfl | rfl | rfl
    · by_cases e : i = 0
      · simp [e]
      · simp [e, Ne.symm e]
    · by_cases e : i = 1
      · simp [e]
      · simp [e, Ne.symm e]
    · by_cases e : i = 2
      · simp [e]
      · simp [e, Ne.symm e]
end KD
theorem kd_first {lo : Nat} {w0 wr w3 : World} {G XB YB ZB n k S : Nat} {L : Nat → Int} {F : Nat → Bool} {p : Nat → Nat} (HR : Hid (Pre wr G XB YB ZB n k L F p)) (HB : Hid (Below lo w0 wr))
    (st : Step G (wr.alloc (.cells #[.slice none 0 0, .slice none 0 0, .slice none 0 0] 69)) w3)
    (cs : ∀ j, j ≠ 16 → w3.cell? ⟨G, j, none⟩ = (wr.alloc (.cells #[.slice none 0 0, .slice none 0 0, .slice none 0 0] 69)).cell? ⟨G, j, none⟩)
    (fz : ∀ a : Addr, a.block < (wr.alloc (.cells #[.slice none 0 0, .slice none 0 0, .slice none 0 0] 69)).heap.size → w3.frozen? a = (wr.alloc (.cells #[.slice none 0 0, .slice none 0 0, .slice none 0 0] 69)).frozen? a)
    (rW : w3.rowIs (wr.alloc (.cells #[.slice none 0 0, .slice none 0 0, .slice none 0 0] 69)).heap.size 21 S (fun _ => .int .i32 0)) (hlo : lo ≤ G) (hlo2 : lo ≤ wr.heap.size) (hXG : XB ≠ G) (hYG : YB ≠ G) :
    KD lo w0 w3 G XB YB wr.heap.size n S L F (.slice none 0 0) (.slice none 0 0) (.slice none 0 0) (fun _ => 0) := by
  have R := HR.out
  have hGl : G < wr.heap.size := cell_lt R.g.rows
  have hs : (wr.alloc (.cells #[.slice none 0 0, .slice none 0 0, .slice none 0 0] 69)).heap.size = wr.heap.size + 1 := szA _ _
  have blk : ∀ b, b < wr.heap.size + 1 → b ≠ G → w3.heap[b]? = (wr.alloc (.cells #[.slice none 0 0, .slice none 0 0, .slice none 0 0] 69)).heap[b]? := fun b h1 h2 => st.block b (by rw [hs]; exact h1) h2
  have gc : ∀ j, j ≠ 16 → w3.cell? ⟨G, j, none⟩ = wr.cell? ⟨G, j, none⟩ := fun j hj => (cs j hj).trans (World.cell?_alloc_past _ _ _ hGl)
  refine ⟨?_, (gc 13 (by decide)).trans R.g.rows, (gc 17 (by decide)).trans R.g.latest, (gc 18 (by decide)).trans R.g.forked, ?_, ?_, ?_, ?_, ?_, hGl, R.rX.lt, R.rY.lt, hlo2⟩
  · exact Below.trans HB.out ⟨st.os, st.tape, st.output, Nat.le_trans (by rw [hs]; omega) st.size, fun b hb => (blk b (by omega) (by omega)).trans (Below.heap_alloc _ _ _ (by omega))⟩
  · rw [fz _ (by rw [hs]; show G < _; omega), World.frozen?_alloc_old _ _ _ (Nat.ne_of_lt hGl)]; exact R.g.thawed 13
  · exact (R.rX.alloc _).of_block (blk _ (by have := R.rX.lt; omega) hXG)
  · exact (R.rY.alloc _).of_block (blk _ (by have := R.rY.lt; omega) hYG)
  · exact (World.rowIs_alloc wr #[.slice none 0 0, .slice none 0 0, .slice none 0 0] 69 (fun j => if j = 0 then .slice none 0 0 else if j = 1 then .slice none 0 0 else .slice none 0 0) (fun i hi => by
      have : i = 0 ∨ i = 1 ∨ i = 2 := by simp at hi; omega
      rcases this with rfl | rfl | rfl <;> rfl)).of_block (blk _ (by omega) (by omega))
  · rw [hs] at rW; exact rW


/-- a copy between rows of int32, as one step of a region that draws -/
theorem step_copyI {ops : Array Oper} {o : Oper} {a : Act} {w : World} {K : Act → World → Prop} {Q : Exit → Act → World → Prop} {E : Prop} (hgd : o.guard = none) (d s : Operand)
    (ho : o.op = .call { callee := .builtin .copy, args := #[d, s], argTypes := #[22, 22] }) (g off S n c1 c2 xb : Nat) (gW v : Nat → Int)
    (hd : a.eval d = .slice (some ⟨g, off, none⟩) n c1) (hs : a.eval s = .slice (some ⟨xb, 0, none⟩) n c2) (rW : w.rowIs g 21 S (fun j => .int .i32 (gW j))) (rX : ∀ i, i < n → w.cell? ⟨xb, i, none⟩ = some (.int .i32 (v i)))
    (hfit : off + n ≤ S) (h : ∀ w', Hid (w'.rowIs g 21 S (fun j => .int .i32 (if off ≤ j ∧ j < off + n then v (j - off) else gW j))) → Hid (Below g w w') → K (a.put o.dst (goInt n)) w') :
    if Region.wanted o (yielded ops a.tmps) = true then Oper.wp Try.prog o a w K Q else E := by
  obtain ⟨c, hc1, hc2, hc3⟩ := rW
  have hl : ((List.range n).map fun i => Value.int .i32 (v i)).length = n := by simp
  refine step_copy_splice hgd d s 22 22 ho 21 Try.underlying22 Try.size21 _ _ _ _ _ _ hd hs g off c.toList 21 (by simpa using hc1) ((List.range n).map fun i => .int .i32 (v i)) (by simp [hl]) (fun _ => ⟨rfl, _, rfl, ?_⟩) (by simp [hl, hc2, hfit]) (fun u hu => ?_) g w (Below.refl _ _) (Nat.le_refl _) ?_
  · intro j u hu
    have hj : j < n := by
      rcases Nat.lt_or_ge j n with h1 | h1
      · exact h1
      · rw [List.getElem?_eq_none (by simpa using h1)] at hu; cases hu
    have : u = .int .i32 (v j) := by simpa [hj] using hu.symm
    subst this
    have := rX j hj
    have e : (⟨xb, 0, none⟩ : Addr).add j = ⟨xb, j, none⟩ := by unfold Addr.add; split <;> simp_all
    rw [e]; exact this
  · obtain ⟨i, _, rfl⟩ := List.mem_map.1 hu; rfl
  · intro w' h1 h2
    rw [hl]
    refine h w' ?_ h2
    refine ⟨_, h1.out, by rw [List.size_toArray, length_splice _ _ _ (by simp [hc2, hfit])]; simpa using hc2, fun j hj => ?_⟩
    rw [List.getElem?_toArray]
    show _ = some (Value.int .i32 (if off ≤ j ∧ j < off + n then v (j - off) else gW j))
    unfold splice
    by_cases e1 : j < off
    · rw [List.getElem?_append_left (by simp; omega), List.getElem?_take_of_lt e1, if_neg (by omega)]
      simpa using hc3 j hj
    · rw [List.getElem?_append_right (by simp; omega)]
      have e0 : (c.toList.take off).length = off := by simp; omega
      rw [e0]
      by_cases e2 : j < off + n
      · rw [List.getElem?_append_left (by simp; omega), if_pos ⟨by omega, e2⟩, List.getElem?_map, List.getElem?_range (by omega)]
        rfl
      · rw [List.getElem?_append_right (by simp; omega), if_neg (by omega), List.getElem?_drop]
        simp only [hl]
        rw [show off + n + (j - off - n) = j by omega]
        simpa using hc3 j hj
end Go.Proofs.Qxb6608693a

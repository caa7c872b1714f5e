import Derived.Test.Qxb6608693aWords
import Derived.Deep.RegionHeld3
import Derived.Deep.RegionLawGrows
import Derived.Deep.AppendLies
namespace Go.Proofs.Qxb6608693a
open Go.RowKit Go.Deep Srt
set_option linter.unusedVariables false
set_option linter.unusedSimpArgs false

theorem Try.info69 : (Try.prog.info? 69).map (fun i => (i.zero, i.size, i.bytes)) = some (some (.agg #[.slice none 0 0, .slice none 0 0, .slice none 0 0]), 3, 72) := by kernel_rfl

theorem hpA (w : World) (o : Obj) (k : Nat) : (w.alloc o).heap[k]? = if k = w.heap.size then some o else w.heap[k]? := by
  have : (w.alloc o).heap = w.heap.push o := rfl
  rw [this, Array.getElem?_push]
theorem hpD (w : World) (k : Nat) : w.drew.heap[k]? = w.heap[k]? := rfl
theorem szA (w : World) (o : Obj) : (w.alloc o).heap.size = w.heap.size + 1 := by simp
theorem szD (w : World) : w.drew.heap.size = w.heap.size := rfl
theorem keepA {X : World} {a : Addr} {v : Value} {o : Obj} (h : X.drew.cell? a = some v) : (X.alloc o).drew.cell? a = some v := by
  have hl : a.block < X.heap.size := cell_lt (w := X) h
  exact (World.cell?_of_block (w := X) (w' := (X.alloc o).drew) (by rw [hpD, hpA, if_neg (Nat.ne_of_lt hl)])).trans h
theorem Hid.mk' {p : Prop} (h : p) : Hid p := h
theorem keepS {X : World} {k j b i : Nat} {v u : Value} (h : X.cell? ⟨k, j, none⟩ = some v) (hb : k ≠ b) : (X.setCell ⟨b, i, none⟩ u).cell? ⟨k, j, none⟩ = some v :=
  (World.cell?_of_block (w := X) (Below.heap_setCell _ _ _ _ hb)).trans h
theorem atR {X w' : World} {R : Nat} (hg : X.grownBy w' none) (hR : R < X.heap.size) (h : X.heap[R]? = some (.cells #[.slice none 0 0] 66 (0, 0))) :
    w'.heap[R]? = some (.cells #[.slice none 0 0] 66 (0, 0)) ∧ w'.cell? ⟨R, 0, none⟩ = some (.slice none 0 0) ∧ w'.frozen? ⟨R, 0, none⟩ = false := by
  have h1 := (hg.block R hR (by simp)).trans h
  exact ⟨h1, by rw [cell_of_row w' R 0 _ _ _ h1]; rfl, by simp [World.frozen?, h1]⟩
/-- behind the append, ahead of the store -/
structure Mid (w : World) (G : Nat) (v0 v1 v2 : Value) (x : World) (RB RR cap : Nat) : Prop where
  step : Step G w x
  graph : x.heap[G]? = w.heap[G]?
  rb : w.heap.size ≤ RB
  rr : w.heap.size ≤ RR
  box : x.heap[RB]? = some (.cells #[.slice (some ⟨RR, 0, none⟩) 1 cap] 66 (0, 0))
  c0 : x.cell? ⟨RR, 0, none⟩ = some v0
  c1 : x.cell? ⟨RR, 1, none⟩ = some v1
  c2 : x.cell? ⟨RR, 2, none⟩ = some v2
def Got (w' : World) (v0 v1 v2 : Value) (RR : Nat) : Prop := ∀ (j : Nat) (u : Value), ([] ++ [v0, v1, v2])[j]? = some u → w'.cell? (({ block := ({ block := RR, off := 0 } : Addr).block, off := 0 } : Addr).add j) = some u
theorem Got.at {w' : World} {v0 v1 v2 : Value} {RR : Nat} (h : Got w' v0 v1 v2 RR) : w'.cell? ⟨RR, 0, none⟩ = some v0 ∧ w'.cell? ⟨RR, 1, none⟩ = some v1 ∧ w'.cell? ⟨RR, 2, none⟩ = some v2 :=
  ⟨h 0 v0 rfl, h 1 v1 rfl, h 2 v2 rfl⟩
theorem mid_set {w w' : World} {G RB RR cap m : Nat} {v0 v1 v2 : Value} (HA : Hid (Step G w w' ∧ w'.heap[G]? = w.heap[G]? ∧ m ≤ RR ∧ RR < w'.heap.size ∧ Got w' v0 v1 v2 RR))
    (KB : Hid (w'.heap[RB]? = some (.cells #[.slice none 0 0] 66))) (hG : G < w.heap.size) (h1 : w.heap.size ≤ RB) (h2 : RB < m) :
    Mid w G v0 v1 v2 (w'.setCell ⟨RB, 0, none⟩ (.slice (some ⟨RR, 0, none⟩) 1 cap)) RB RR cap := by
  obtain ⟨st, hg, hm, hlt, hc⟩ := HA
  obtain ⟨g0, g1, g2⟩ := hc.at
  refine ⟨st.setNew (by exact h1) _, (Below.heap_setCell _ _ _ _ (by show G ≠ RB; omega)).trans hg, h1, by omega, ?_, keepS g0 (by omega), keepS g1 (by omega), keepS g2 (by omega)⟩
  have KB' : w'.heap[RB]? = some (.cells #[.slice none 0 0] 66 (0, 0)) := KB
  simp [World.setCell, KB', Array.getElem?_modify]
theorem mid_new {w w' : World} {G RR cap m : Nat} {v0 v1 v2 : Value} (HA : Hid (Step G w w' ∧ w'.heap[G]? = w.heap[G]? ∧ m ≤ RR ∧ RR < w'.heap.size ∧ Got w' v0 v1 v2 RR)) (hG : G < w.heap.size) (hm : w.heap.size ≤ m) :
    Mid w G v0 v1 v2 (w'.alloc (.cells #[.slice (some ⟨RR, 0, none⟩) 1 cap] 66)) w'.heap.size RR cap := by
  obtain ⟨st, hg, hm, hlt, hc⟩ := HA
  obtain ⟨g0, g1, g2⟩ := hc.at
  refine ⟨st.alloc _, ?_, st.size, by omega, ?_, ?_, ?_, ?_⟩
  · have := st.size
    rw [hpA, if_neg (by omega)]; exact hg
  · rw [hpA, if_pos rfl]
  · exact keepA (X := w') g0
  · exact keepA (X := w') g1
  · exact keepA (X := w') g2
theorem mid_cells {w x : World} {G RB RR cap : Nat} {v0 v1 v2 v : Value} (M : Mid w G v0 v1 v2 x RB RR cap) (h : w.cell? ⟨G, 13, none⟩ = some v) (hf : w.frozen? ⟨G, 13, none⟩ = false) :
    x.cell? ⟨G, 13, none⟩ = some v ∧ x.frozen? ⟨G, 13, none⟩ = false ∧ x.cell? ⟨RB, 0, none⟩ = some (.slice (some ⟨RR, 0, none⟩) 1 cap) :=
  ⟨(World.cell?_of_block (a := ⟨G, 13, none⟩) M.graph).trans h, (World.frozen?_of_block (a := ⟨G, 13, none⟩) M.graph).trans hf, by rw [cell_of_row x RB 0 _ _ _ M.box]; rfl⟩
/-- one row lies in the graph's list: v0, v1, v2 -/
def OneRow (lo : Nat) (w' : World) (G : Nat) (v0 v1 v2 : Value) : Prop :=
  ∃ RB RR cap : Nat, lo ≤ RB ∧ lo ≤ RR ∧ w'.cell? ⟨G, 13, none⟩ = some (.pointer (some ⟨RB, 0, none⟩)) ∧ w'.shape? RB = some (66, 1) ∧ w'.cell? ⟨RB, 0, none⟩ = some (.slice (some ⟨RR, 0, none⟩) 1 cap) ∧
    w'.cell? ⟨RR, 0, none⟩ = some v0 ∧ w'.cell? ⟨RR, 1, none⟩ = some v1 ∧ w'.cell? ⟨RR, 2, none⟩ = some v2
theorem mid_end {w x : World} {G RB RR cap : Nat} {v0 v1 v2 v : Value} (M : Mid w G v0 v1 v2 x RB RR cap) (hG : G < w.heap.size) (h : w.cell? ⟨G, 13, none⟩ = some v) (hf : w.frozen? ⟨G, 13, none⟩ = false) :
    Step G w (x.setCell ⟨G, 13, none⟩ (.pointer (some ⟨RB, 0, none⟩))) ∧ OneRow w.heap.size (x.setCell ⟨G, 13, none⟩ (.pointer (some ⟨RB, 0, none⟩))) G v0 v1 v2 := by
  obtain ⟨q1, q2, q3⟩ := mid_cells M h hf
  have hrb := M.rb
  have hrr := M.rr
  refine ⟨M.step.set _ _, RB, RR, cap, hrb, hrr, ?_, ?_, keepS q3 (by omega), keepS M.c0 (by omega), keepS M.c1 (by omega), keepS M.c2 (by omega)⟩
  · exact World.cell?_setCell_same _ _ _ q1
  · have : (x.setCell ⟨G, 13, none⟩ (.pointer (some ⟨RB, 0, none⟩))).heap[RB]? = _ := (Below.heap_setCell _ _ _ _ (by show RB ≠ G; omega)).trans M.box
    simp [World.shape?, this]
set_option maxRecDepth 100000 in
set_option maxHeartbeats 2000000 in
theorem add_any (G : Nat) (a0 a1 a2 : Option Addr) (n0 c0 n1 c1 n2 c2 : Nat) (w : World) (h : w.cell? ⟨G, 13, none⟩ = some (.pointer none)) (hf : w.frozen? ⟨G, 13, none⟩ = false) :
    Calls Try.prog 23 #[.pointer (some ⟨G, 13, none⟩), .agg #[.slice a0 n0 c0, .slice a1 n1 c1, .slice a2 n2 c2]] w fun e w' => e = .returned (.tuple #[]) ∧ Step G w w' ∧
      OneRow w.heap.size w' G (.slice a0 n0 c0) (.slice a1 n1 c1) (.slice a2 n2 c2) := by
  have hG : G < w.heap.size := cell_lt h
  obtain ⟨i69, hi, hz⟩ := Option.map_eq_some_iff.1 Try.info69
  obtain ⟨hz0, hz1, hz2⟩ : i69.zero = some (.agg #[.slice none 0 0, .slice none 0 0, .slice none 0 0]) ∧ i69.size = 3 ∧ i69.bytes = 72 := by simpa using hz
  clear hz
  have hne : w.heap.size ≠ G := Nat.ne_of_gt hG
  have hG1 : G < w.heap.size + 1 := by omega
  have hG2 : G < w.heap.size + 1 + 1 := by omega
  have hG2' : G < w.heap.size + 2 := by omega
  go_enter Try.func23, Try.ntmps23
  go_wp2_with fail
  go_region_held3 (fun x => x.cell? ⟨w.heap.size, 0, none⟩ = some (.slice a0 n0 c0) ∧ x.cell? ⟨w.heap.size, 1, none⟩ = some (.slice a1 n1 c1) ∧ x.cell? ⟨w.heap.size, 2, none⟩ = some (.slice a2 n2 c2) ∧ x.cell? ⟨G, 13, none⟩ = some (.pointer none)) (first | (go_keep; done) | (go_split_ands; and_intros <;> first | (go_keep; done) | (refine keepS ?_ ?_ <;> first | assumption | omega) | (refine keepA ?_; assumption)))
    (first
      | (go_at_call 19; refine (made_nil G 13 _ (by go_split_ands; assumption)).mono ?_; rintro e w' ⟨rfl, rfl⟩)
      | (refine step_append_grows rfl (.tmp 6) (.tmp 8) 66 rfl 69 i69 _ 3 72 Try.underlying66 hi hz0 hz1 hz2 rfl (by decide) none 0 0 [] rfl (fun _ => ⟨rfl, rfl⟩) rfl (fun b hb => by cases hb) _ 1 1 [.slice a0 n0 c0, .slice a1 n1 c1, .slice a2 n2 c2] rfl rfl ?c1 ?c2 (by decide) (by decide) (by decide) ?_
         case c1 => exact World.news_of_block (cs := #[.slice a0 n0 c0, .slice a1 n1 c1, .slice a2 n2 c2]) (t := 69) (fr := (0, 0)) (by simp only [hpA, hpD, szA, szD] <;> (repeat' split) <;> first | rfl | (exfalso; omega) | exact absurd trivial (by assumption))
         case c2 => (intro u hu; simp at hu; rcases hu with rfl | rfl | rfl <;> rfl)
         intro v' w' hown hgrow
         obtain ⟨RR, cap, rfl, hRR, hRR2⟩ := hown.form (by decide)
         have k0 : w'.cell? ⟨w.heap.size, 0, none⟩ = some (.slice a0 n0 c0) := hgrow.cell (by go_split_ands; assumption) (by simp)
         have k1 : w'.cell? ⟨w.heap.size, 1, none⟩ = some (.slice a1 n1 c1) := hgrow.cell (by go_split_ands; assumption) (by simp)
         have k2 : w'.cell? ⟨w.heap.size, 2, none⟩ = some (.slice a2 n2 c2) := hgrow.cell (by go_split_ands; assumption) (by simp)
         have k3 : w'.cell? ⟨G, 13, none⟩ = some (.pointer none) := hgrow.cell (by go_split_ands; assumption) (by simp)
         have hst : Step G w w' := Step.trans (by repeat (first | exact Step.refl _ _ | refine Step.alloc ?_ _ | refine Step.drew ?_)) ⟨hgrow.os, hgrow.tape, hgrow.output, hgrow.size, fun k hk _ => hgrow.block k hk (by simp)⟩
         have hfb : w'.heap[G]? = w.heap[G]? := (hgrow.block G (by simp only [szA, szD]; omega) (by simp)).trans (by simp only [hpA, hpD, szA, szD] <;> (repeat' split) <;> first | rfl | (exfalso; omega) | exact absurd trivial (by assumption))
         have hfr : w'.frozen? ⟨G, 13, none⟩ = false := (World.frozen?_of_block (a := ⟨G, 13, none⟩) hfb).trans hf
         have hcs := hown.cells rfl
         first
           | (have kR := atR (R := w.heap.size + 1) hgrow ?p1 ?p2; (case p1 => (simp only [szA, szD]; omega)); (case p2 => (simp only [hpA, hpD, szA, szD] <;> (repeat' split) <;> first | rfl | exact absurd trivial ‹¬True› | (exfalso; omega))); obtain ⟨kb, kc, kf⟩ := kR; have KB := Hid.mk' kb; clear kb)
           | (have kR := atR (R := w.heap.size + 2) hgrow ?p1 ?p2; (case p1 => (simp only [szA, szD]; omega)); (case p2 => (simp only [hpA, hpD, szA, szD] <;> (repeat' split) <;> first | rfl | exact absurd trivial ‹¬True› | (exfalso; omega))); obtain ⟨kb, kc, kf⟩ := kR; have KB := Hid.mk' kb; clear kb)
           | skip
         simp only [szA, szD] at hRR
         have HA := Hid.mk' (And.intro hst (And.intro hfb (And.intro hRR (And.intro hRR2 hcs))))
         clear hst hfb hRR hRR2 hcs hown hgrow))
  all_goals first
    | (have M := mid_set (cap := cap) HA KB hG (by omega) (by omega); obtain ⟨q1, q2, q3⟩ := mid_cells M h hf; have HM := Hid.mk' M; clear M HA KB k0 k1 k2 k3 kc kf hfr)
    | (have M := mid_new (cap := cap) HA hG (by omega); obtain ⟨q1, q2, q3⟩ := mid_cells M h hf; have HM := Hid.mk' M; clear M HA k0 k1 k2 k3 hfr)
  all_goals go_wp2_with (go_at_call 28; refine (store_any G 13 _ _ _ _ q1 q2 q3).mono ?_; rintro e wz ⟨rfl, rfl⟩)
  all_goals go_end0
  all_goals exact ⟨rfl, mid_end HM.out hG h hf⟩
end Go.Proofs.Qxb6608693a

import Derived.Test.Qxb6608662aShared
import Derived.Deep.RegionHeld
namespace Go.Proofs.Qxb6608662a
open Go.ChangeShapes Go.WideShapes Go.ChangeAt Go.RowKit
open Go.Deep
set_option linter.unusedVariables false

theorem Try.info5 : (Try.prog.info? 5).map (fun i => (i.zero, i.size, i.bytes)) = some (some (.int .u8 0), 1, 1) := by kernel_rfl

/-- the head that lies at block B -/
structure HeadAt (w : World) (B : Nat) (q t : Int) (s h p : Nat) : Prop where
  c0 : w.cell? ⟨B, 0, none⟩ = some (.int .u64 q)
  c1 : w.cell? ⟨B, 1, none⟩ = some (.int .i64 t)
  c2 : w.cell? ⟨B, 2, none⟩ = some (.int .i64 s)
  c3 : w.cell? ⟨B, 3, none⟩ = some (.int .i64 h)
  c4 : w.cell? ⟨B, 4, none⟩ = some (.int .i64 p)
theorem HeadAt.store {w : World} {B : Nat} {q t : Int} {s h p : Nat} (H : HeadAt w B q t s h p) {a : Addr} (ha : a.block ≠ B) (v : Value) : HeadAt (w.setCell a v) B q t s h p :=
  ⟨(World.cell?_setCell_far _ _ _ _ ha).trans H.c0, (World.cell?_setCell_far _ _ _ _ ha).trans H.c1, (World.cell?_setCell_far _ _ _ _ ha).trans H.c2, (World.cell?_setCell_far _ _ _ _ ha).trans H.c3, (World.cell?_setCell_far _ _ _ _ ha).trans H.c4⟩

/-- block B holds n bytes; those from lo to k are 1 -/
def OnesAt (w : World) (B n lo k : Nat) : Prop := ∃ g : Nat → Int, w.rowIs B 5 n (fun j => .int .u8 (g j)) ∧ ∀ j, lo ≤ j → j < k → g j = 1
theorem OnesAt.made (w : World) (n lo : Nat) : OnesAt (w.alloc (.cells (madeCells #[.int .u8 0] n) 5)) w.heap.size n lo lo :=
  ⟨fun _ => 0, World.rowIs_made _ _ _ _, fun j h1 h2 => by omega⟩
theorem OnesAt.store {w : World} {B n lo k : Nat} (h : OnesAt w B n lo k) : OnesAt (w.setCell ⟨B, k, none⟩ (.int .u8 1)) B n lo (k + 1) := by
  obtain ⟨g, h1, h2⟩ := h
  refine ⟨fun j => if j = k then 1 else g j, (h1.set k (.int .u8 1)).congr fun i hi => ?_, fun j h3 h4 => ?_⟩
  · by_cases e : i = k <;> simp [e]
  · by_cases e : j = k
    · simp [e]
    · simp [e, h2 j h3 (by omega)]
theorem OnesAt.alloc {w : World} {B n lo k : Nat} (h : OnesAt w B n lo k) (o : Obj) : OnesAt (w.alloc o) B n lo k := by
  obtain ⟨g, h1, h2⟩ := h
  exact ⟨g, h1.alloc o, h2⟩

set_option maxHeartbeats 1000000 in
theorem ends_core (q t : Int) (s h p : Nat) (hs : s ≤ 65535) (hsum : s + h + p ≤ 65472) (w : World) :
    Calls Try.prog 4 #[.int .u64 q, .int .i64 t, .int .i64 s, .int .i64 h, .int .i64 p] w fun e w' => e = .returned (.bool true) ∧ Grown w w' := by
  have hmk := run_make_row' (P := Try.prog) 22 5 (.int .u8 0) 1 Try.underlying22 Try.info5 rfl .i64 .i64 (34 + s + h + p + 4) (by omega) (by omega)
  have ec : ((34 + s + h + p + 4 : Nat) : Int) = 34 + (s : Int) + h + p + 4 := by omega
  simp only [ec] at hmk
  clear ec
  have hi : (h : Int) ≤ 65472 := by omega
  have pi : (p : Int) ≤ 65472 := by omega
  have si : (s : Int) + h + p ≤ 65472 := by omega
  go_enter Try.func4, Try.ntmps4
  go_wp2_with fail
  refine (newHead_any q t s h p _).mono ?_
  rintro e w1 ⟨rfl, x, rfl⟩
  go_wp2_with fail
  refine (size_any q t s h p (by omega) (by omega) (by omega) _).mono ?_
  rintro e w1 ⟨rfl, y, z, rfl⟩
  go_wp2_with fail
  clear hmk
  have g0 : Grown w (((((w.alloc (.cells x 28)).alloc (.cells #[.int .u64 q, .int .i64 t, .int .i64 s, .int .i64 h, .int .i64 p] 28)).alloc (.cells y 28)).alloc (.cells z 28)).alloc (.cells (madeCells #[.int .u8 0] (34 + s + h + p + 4)) 5)) :=
    (((((Grown.refl _).alloc _ _).alloc _ _).alloc _ _).alloc _ _).alloc _ _
  have o0 := OnesAt.made ((((w.alloc (.cells x 28)).alloc (.cells #[.int .u64 q, .int .i64 t, .int .i64 s, .int .i64 h, .int .i64 p] 28)).alloc (.cells y 28)).alloc (.cells z 28)) (34 + s + h + p + 4) (34 + s)
  simp only [World.size_alloc] at o0
  have h0 : HeadAt (((((w.alloc (.cells x 28)).alloc (.cells #[.int .u64 q, .int .i64 t, .int .i64 s, .int .i64 h, .int .i64 p] 28)).alloc (.cells y 28)).alloc (.cells z 28)).alloc (.cells (madeCells #[.int .u8 0] (34 + s + h + p + 4)) 5)) (w.heap.size + 1) q t s h p :=
    ⟨by simp [go_sem], by simp [go_sem], by simp [go_sem], by simp [go_sem], by simp [go_sem]⟩
  have z0 : w.heap.size + 1 + 1 + 1 + 1 < (((((w.alloc (.cells x 28)).alloc (.cells #[.int .u64 q, .int .i64 t, .int .i64 s, .int .i64 h, .int .i64 p] 28)).alloc (.cells y 28)).alloc (.cells z 28)).alloc (.cells (madeCells #[.int .u8 0] (34 + s + h + p + 4)) 5)).heap.size := by simp
  go_loopw [16] (fun i wr => ∃ k : Nat, 34 + s ≤ k ∧ k ≤ 34 + s + h ∧ i = .int .i64 k ∧ Grown w wr ∧ HeadAt wr (w.heap.size + 1) q t s h p ∧ OnesAt wr (w.heap.size + 1 + 1 + 1 + 1) (34 + s + h + p + 4) (34 + s) k ∧ w.heap.size + 1 + 1 + 1 + 1 < wr.heap.size)
    (fun i _ => 34 + s + h - (intOf i).toNat)
  case atStart => exact ⟨34 + s, Nat.le_refl _, by omega, by simp, g0, h0, o0, z0⟩
  case round =>
    clear g0 o0 h0 z0
    obtain ⟨k, hk1, hk2, rfl, hg, hh, ho, hz⟩ := hrel
    by_cases hlt : k < 34 + s + h
    · have ho' := ho
      obtain ⟨g, hr, hgs⟩ := ho'
      have hc := hr.cell (i := k) (by omega)
      have hf := hr.frozen k
      have G : Hid (Grown w wr) := hg
      have HH : Hid (HeadAt wr (w.heap.size + 1) q t s h p) := hh
      have O : Hid (OnesAt wr (w.heap.size + 1 + 1 + 1 + 1) (34 + s + h + p + 4) (34 + s) k) := ho
      clear hg hh ho hr hgs
      go_wp2
      go_roundw
      case rel => exact ⟨k + 1, by omega, by omega, by go_num, G.out.setCell (by simp; omega) _, HH.out.store (by show w.heap.size + 1 + 1 + 1 + 1 ≠ w.heap.size + 1; omega) _, O.out.store, by simpa [World.setCell] using hz⟩
      case measure => simp [intOf]; omega
    · obtain ⟨c0, c1, c2, c3, c4⟩ := hh
      have G : Hid (Grown w wr) := hg
      have O : Hid (OnesAt wr (w.heap.size + 1 + 1 + 1 + 1) (34 + s + h + p + 4) (34 + s) (34 + s + h)) := by
        obtain ⟨g, h1, h2⟩ := ho
        exact ⟨g, h1, fun j h3 h4 => h2 j h3 (by omega)⟩
      clear hg ho
      go_wp2_with fail
      clear c0 c1 c2 c3 c4
      refine (header_any _ _ q t s h p (by omega) (by omega) (by omega) _).mono ?_
      rintro e w1 ⟨⟨o, rfl, hoff⟩, x1, y1, rfl⟩
      have G1 : Hid (Grown w ((wr.alloc (.cells x1 28)).alloc (.cells y1 28))) := (G.out.alloc _ _).alloc _ _
      have O1 : Hid (OnesAt ((wr.alloc (.cells x1 28)).alloc (.cells y1 28)) (w.heap.size + 1 + 1 + 1 + 1) (34 + s + h + p + 4) (34 + s) (34 + s + h)) := (O.out.alloc _).alloc _
      have F : Hid (0 < h → o = 34 + s) := hoff
      clear G O hoff
      go_wp2_with fail
      go_loop [18] (fun i => ∃ m : Nat, m ≤ h ∧ i = .int .i64 m) (fun i => h - (intOf i).toNat)
      case atStart => exact ⟨0, by omega, rfl⟩
      case round =>
        obtain ⟨m, hm, rfl⟩ := hrel
        by_cases hlt2 : m < h
        · obtain rfl : o = 34 + s := F.out (by omega)
          obtain ⟨g, hr, hg1⟩ := O1.out
          have hc := hr.cell (i := 34 + s + m) (by omega)
          rw [hg1 _ (by omega) (by omega)] at hc
          clear hr hg1
          go_wp2
          go_round
          case rel => exact ⟨m + 1, by omega, by go_num⟩
          case measure => simp [intOf]; omega
        · go_wp2
          go_ret
          exact ⟨rfl, G1.out⟩
end Go.Proofs.Qxb6608662a

import Derived.Test.Qxb6608693aChoose
import Derived.Test.Qxb6608693aBits
import Derived.OpenShut
import Derived.Deep.RegionHeld
import Derived.Laws.BitsAllLaws
namespace Go.Proofs.Qxb6608693a.Srt
open Go.RowKit Go.Deep
set_option linter.unusedVariables false

set_option maxHeartbeats 1000000 in
theorem next2_any (L : Nat) (w : World) (hL : 1 ≤ L) (hL2 : L ≤ 65536) :
    Calls Try.prog 45 #[.int .i64 L] w fun e w' => (∃ M : Nat, e = .returned (.int .u64 M) ∧ 1 ≤ M ∧ M ≤ 2 * L) ∧ w' = w := by
  have h := fun w => len_any L w hL2
  have hk := len_le hL2
  have hp := two_pow_len L L (Nat.le_refl _) hL (by omega)
  generalize Lib.bitLen L = k at h hk hp
  go_enter Try.func45, Try.ntmps45
  go_wp2_with (go_at_call 27; refine (h _).mono ?_; rintro e w' ⟨rfl, rfl⟩)
  go_ret
  refine ⟨⟨2 ^ k, ?_, Nat.one_le_two_pow, hp⟩, rfl⟩
  refine congrArg Ending.returned (congrArg (Value.int IntKind.u64) ?_)
  have e : ((2 : Int) ^ k) = ((2 ^ k : Nat) : Int) := by push_cast; rfl
  rw [IntKind.wrap_u64, e]
  have h17 : (2 : Nat) ^ k ≤ 2 ^ 17 := Nat.pow_le_pow_right (by decide) hk
  generalize (2 : Nat) ^ k = p at h17
  omega

set_option maxHeartbeats 1000000 in
theorem xor_any (rb : Nat) (X : Int) (w : World) (hc : w.cell? ⟨rb, 0, none⟩ = some (.int .u64 X)) (hf : w.frozen? ⟨rb, 0, none⟩ = false) :
    Calls Try.prog 46 #[.pointer (some ⟨rb, 0, none⟩)] w fun e w' => ∃ Y : Int, (e = .returned (.int .u64 Y) ∧ 0 ≤ Y ∧ Y ≤ 18446744073709551615) ∧ Step rb w w' ∧ w'.cell? ⟨rb, 0, none⟩ = some (.int .u64 Y) ∧ w'.frozen? ⟨rb, 0, none⟩ = false := by
  go_enter Try.func46, Try.ntmps46
  go_wp2
  go_region
  all_goals go_wp2
  generalize bits BinOp.xor IntKind.u64 X (IntKind.u64.wrap (X * 8192)) = A
  have c1 : ((w.setCell ⟨rb, 0, none⟩ (.int .u64 A)).drew).cell? ⟨rb, 0, none⟩ = some (.int .u64 A) := by simp [go_sem, hc]
  have f1 : ((w.setCell ⟨rb, 0, none⟩ (.int .u64 A)).drew).frozen? ⟨rb, 0, none⟩ = false := by simp [go_sem, hf]
  have S1 : Hid (Step rb w ((w.setCell ⟨rb, 0, none⟩ (.int .u64 A)).drew)) := ((Step.refl _ _).set _ _).drew
  generalize (w.setCell ⟨rb, 0, none⟩ (.int .u64 A)).drew = w1 at c1 f1 S1 ⊢
  go_region
  all_goals go_wp2
  generalize bits BinOp.xor IntKind.u64 A (A / 128) = B
  have c2 : ((w1.setCell ⟨rb, 0, none⟩ (.int .u64 B)).drew).cell? ⟨rb, 0, none⟩ = some (.int .u64 B) := by simp [go_sem, c1]
  have f2 : ((w1.setCell ⟨rb, 0, none⟩ (.int .u64 B)).drew).frozen? ⟨rb, 0, none⟩ = false := by simp [go_sem, f1]
  have S2 : Hid (Step rb w ((w1.setCell ⟨rb, 0, none⟩ (.int .u64 B)).drew)) := (S1.out.set _ _).drew
  generalize (w1.setCell ⟨rb, 0, none⟩ (.int .u64 B)).drew = w2 at c2 f2 S2 ⊢
  clear c1 f1 S1
  go_region
  all_goals go_wp2
  have hb := bounds_u64 (wf_bits BinOp.xor IntKind.u64 B (IntKind.u64.wrap (B * 131072)))
  go_ret
  refine ⟨_, ⟨rfl, hb.1, hb.2⟩, (S2.out.set _ _).drew, ?_, ?_⟩
  · simp [go_sem, c2]
  · simp [go_sem, f2]

theorem and_low (Y : Int) (M : Nat) (h0 : 0 ≤ Y) (h1 : Y ≤ 18446744073709551615) (hM : 1 ≤ M) (hM2 : M ≤ 131072) : ∃ O : Nat, bits .and .u64 Y ((M : Int) - 1) = (O : Int) ∧ O ≤ M - 1 := by
  refine ⟨Y.toNat &&& (M - 1), ?_, Nat.and_le_right⟩
  rw [u64_and Y ((M : Int) - 1) h0 (by omega) (by omega) (by omega), show ((M : Int) - 1).toNat = M - 1 by omega]

/-- the generator's cell -/
def Gen (w : World) (rb : Nat) : Prop := ∃ X : Int, w.cell? ⟨rb, 0, none⟩ = some (.int .u64 X) ∧ w.frozen? ⟨rb, 0, none⟩ = false
theorem gen_new (w : World) (X : Int) : Gen (w.alloc (.cells #[.int .u64 X] 101)) w.heap.size := ⟨X, by simp [go_sem], by simp [go_sem]⟩

theorem gen_keep {w : World} {rb b : Nat} (h : Gen w rb) (hne : b ≠ rb) (i j : Nat) (u v : Value) : Gen (((w.setCell ⟨b, i, none⟩ u).setCell ⟨b, j, none⟩ v).drew) rb := by
  obtain ⟨X, xc, xf⟩ := h
  refine ⟨X, ?_, ?_⟩
  · show ((w.setCell ⟨b, i, none⟩ u).setCell ⟨b, j, none⟩ v).cell? ⟨rb, 0, none⟩ = _
    rw [World.cell?_setCell_far _ _ _ _ (by exact hne), World.cell?_setCell_far _ _ _ _ (by exact hne)]
    exact xc
  · show ((w.setCell ⟨b, i, none⟩ u).setCell ⟨b, j, none⟩ v).frozen? ⟨rb, 0, none⟩ = _
    rw [World.frozen?_setCell, World.frozen?_setCell]
    exact xf

set_option maxHeartbeats 2000000 in
theorem break_any (b n lo L hi : Nat) (f : Nat → Int) (w : World) (hn : n ≤ 65536) (hL : 8 ≤ L) (hhi : hi = lo + L) (hh : hi ≤ n) (hr : Row w b n f) :
    Calls Try.prog 33 #[.slice (some ⟨b, 0, none⟩) n n, .int .i64 lo, .int .i64 hi] w fun e w' =>
      e = .returned (.tuple #[]) ∧ Step b w w' ∧ ∃ g, Row w' b n g ∧ SwapsIn lo hi f g := by
  have em : (hi : Int) - (lo : Int) = (L : Int) := by omega
  have HE1 : lo + L ≤ hi := by omega
  clear hhi
  have hb := hr.lt
  have hl1 : (8 : Int) ≤ L := by omega
  have hl2 : (L : Int) ≤ 65536 := by omega
  have HR0 : Hid (Row (w.alloc (.cells #[.int .u64 L] 101)) b n f) := hr.alloc _
  have HS0 : Hid (Step b w (w.alloc (.cells #[.int .u64 L] 101))) := (Step.refl _ _).alloc _
  have HG0 : Hid (Gen (w.alloc (.cells #[.int .u64 L] 101)) w.heap.size) := gen_new w L
  clear hr
  go_enter Try.func33, Try.ntmps33
  go_wp2_with fail
  refine (next2_any L _ (by omega) (by omega)).mono ?_
  rintro e w1 ⟨⟨M, rfl, hM1, hM2⟩, rfl⟩
  go_wp2_with fail
  go_loopw [9] (fun vi wr => ∃ (i : Nat) (g : Nat → Int), vi = .int .i64 i ∧ lo ≤ i ∧ i ≤ lo + L / 4 * 2 + 2 ∧ Hid (Step b w wr ∧ Row wr b n g ∧ SwapsIn lo hi f g ∧ Gen wr w.heap.size)) (fun vi _ => lo + L + 3 - (intOf vi).toNat)
  case atStart => exact ⟨lo + L / 4 * 2 - 1, f, by congr 1; omega, by omega, by omega, HS0.out, HR0.out, SwapsIn.refl _ _ _, HG0.out⟩
  case round =>
    obtain ⟨i, g, rfl, hi1, hi2, HI⟩ := hrel
    clear HR0 HS0 HG0
    by_cases hlt : i ≤ lo + L / 4 * 2 + 1
    · obtain ⟨X, xc, xf⟩ := HI.out.2.2.2
      go_wp2_with fail
      refine (xor_any w.heap.size X _ xc xf).mono ?_
      rintro e w2 ⟨Y, ⟨rfl, y0, y1⟩, s1, yc, yf⟩
      have HJ : Hid (Step b w w2 ∧ Row w2 b n g ∧ SwapsIn lo hi f g ∧ Gen w2 w.heap.size) := ⟨HI.out.1.onNew s1 (Nat.le_refl _), HI.out.2.1.aside s1 (by omega), HI.out.2.2.1, ⟨Y, yc, yf⟩⟩
      obtain ⟨O, hO, hO2⟩ := and_low Y M y0 y1 hM1 (by omega)
      clear HI s1 yc yf xc xf
      go_wp2_with fail
      · have hLO : L ≤ O := by assumption
        have c1 := HJ.out.2.1.cell (i := i) (by omega)
        have c2 := HJ.out.2.1.cell (i := lo + (O - L)) (by omega)
        have f1 := HJ.out.2.1.frozen i
        have f2 := HJ.out.2.1.frozen (lo + (O - L))
        by_cases hEq : i = lo + (O - L)
        · have HEq : Hid (i = lo + (O - L)) := hEq
          go_region
          all_goals go_wp2
          clear hEq
          go_roundw
          case rel => exact ⟨lo + (O - L) + 1, Sw g (lo + (O - L)) (lo + (O - L)), by first | go_num | (congr 1; omega), by omega, by have := HEq.out; omega, ((HJ.out.1.set _ _).set _ _).drew, World.rowIs.of_block (HJ.out.2.1.swap (lo + (O - L)) (lo + (O - L)) rfl rfl) rfl, HJ.out.2.2.1.step (by omega) (by omega) (by omega) (by omega), gen_keep HJ.out.2.2.2 (by omega) _ _ _ _⟩
          case measure => have := HEq.out; simp [intOf]; omega
        · go_region
          all_goals go_wp2
          go_roundw
          case rel => exact ⟨i + 1, Sw g (i) (lo + (O - L)), by go_num, by omega, by omega, ((HJ.out.1.set _ _).set _ _).drew, World.rowIs.of_block (HJ.out.2.1.swap (i) (lo + (O - L)) rfl rfl) rfl, HJ.out.2.2.1.step (by omega) (by omega) (by omega) (by omega), gen_keep HJ.out.2.2.2 (by omega) _ _ _ _⟩
          case measure => simp [intOf]; omega
      · have hLO : ¬ L ≤ O := by assumption
        have c1 := HJ.out.2.1.cell (i := i) (by omega)
        have c2 := HJ.out.2.1.cell (i := lo + O) (by omega)
        have f1 := HJ.out.2.1.frozen i
        have f2 := HJ.out.2.1.frozen (lo + O)
        by_cases hEq : i = lo + O
        · have HEq : Hid (i = lo + O) := hEq
          go_region
          all_goals go_wp2
          clear hEq
          go_roundw
          case rel => exact ⟨lo + O + 1, Sw g (lo + O) (lo + O), by first | go_num | (congr 1; omega), by omega, by have := HEq.out; omega, ((HJ.out.1.set _ _).set _ _).drew, World.rowIs.of_block (HJ.out.2.1.swap (lo + O) (lo + O) rfl rfl) rfl, HJ.out.2.2.1.step (by omega) (by omega) (by omega) (by omega), gen_keep HJ.out.2.2.2 (by omega) _ _ _ _⟩
          case measure => have := HEq.out; simp [intOf]; omega
        · go_region
          all_goals go_wp2
          go_roundw
          case rel => exact ⟨i + 1, Sw g (i) (lo + O), by go_num, by omega, by omega, ((HJ.out.1.set _ _).set _ _).drew, World.rowIs.of_block (HJ.out.2.1.swap (i) (lo + O) rfl rfl) rfl, HJ.out.2.2.1.step (by omega) (by omega) (by omega) (by omega), gen_keep HJ.out.2.2.2 (by omega) _ _ _ _⟩
          case measure => simp [intOf]; omega
    · go_wp2_with fail
      go_end0
      exact ⟨rfl, HI.out.1, g, HI.out.2.1, HI.out.2.2.1⟩
end Go.Proofs.Qxb6608693a.Srt

import Derived.Test.Qxb6608693aRows
import Derived.WalkKit
import Derived.WalkSpells
import Derived.ProofKit
import Derived.Deep.OwnRows
import Derived.Lib.SliceRun
namespace Go.Proofs.Qxb6608693a
open Go.RowKit Go.Deep
set_option linter.unusedVariables false

theorem Try.info21 : (Try.prog.info? 21).map (fun i => (i.zero, i.size, i.bytes)) = some (some (.int .i32 0), 1, 4) := by kernel_rfl
theorem Try.info4 : (Try.prog.info? 4).map (fun i => (i.zero, i.size, i.bytes)) = some (some (.bool false), 1, 1) := by kernel_rfl
theorem Try.info3 : (Try.prog.info? 3).map (fun i => (i.zero, i.size, i.bytes)) = some (some (.int .i64 0), 1, 8) := by kernel_rfl

/-- the slice at a, of n elements, reads v -/
def Rd (w : World) (a : Option Addr) (n : Nat) (v : Nat → Value) : Prop := n = 0 ∨ ∃ b off, a = some ⟨b, off, none⟩ ∧ ∀ i, i < n → w.cell? ⟨b, off + i, none⟩ = some (v i)
theorem cell_lt {w : World} {a : Addr} {v : Value} (h : w.cell? a = some v) : a.block < w.heap.size := by
  by_cases hb : a.block < w.heap.size
  · exact hb
  · have : w.heap[a.block]? = none := by simp; omega
    simp [World.cell?, this] at h
theorem Rd.below {w w' : World} {a : Option Addr} {n : Nat} {v : Nat → Value} (h : Rd w a n v) (hb : Below w.heap.size w w') : Rd w' a n v := by
  rcases h with h | ⟨b, off, e, h⟩
  · exact Or.inl h
  · exact Or.inr ⟨b, off, e, fun i hi => (hb.cell (p := ⟨b, off + i, none⟩) (cell_lt (h i hi))).trans (h i hi)⟩

/-- the first k cells of the row at B are v's -/
def Filled (w : World) (B : Nat) (e : TypeId) (n : Nat) (v : Nat → Value) (k : Nat) : Prop := ∃ g : Nat → Value, w.rowIs B e n g ∧ ∀ j, j < k → g j = v j
theorem Filled.store {w : World} {B n k : Nat} {e : TypeId} {v : Nat → Value} (h : Filled w B e n v k) {x : Value} (hx : x = v k) : Filled (w.setCell ⟨B, k, none⟩ x) B e n v (k + 1) := by
  obtain ⟨g, h1, h2⟩ := h
  refine ⟨fun j => if j = k then x else g j, h1.set k x, fun j h4 => ?_⟩
  by_cases c : j = k
  · simp only [c, if_true]; exact hx
  · simp only [c, if_false]; exact h2 j (by omega)
theorem Filled.whole {w : World} {B n : Nat} {e : TypeId} {v : Nat → Value} (h : Filled w B e n v n) : w.rowIs B e n v := by
  obtain ⟨g, h1, h2⟩ := h
  exact h1.congr fun i hi => h2 i hi

/-- zzCloneI32 -/
theorem cloneI_any (a : Option Addr) (n c : Nat) (v : Nat → Int) (w : World) (hn : n ≤ 65536) (h : Rd w a n (fun i => .int .i32 (v i))) :
    Calls Try.prog 7 #[.slice a n c] w fun e w' => ∃ x, e = .returned (.slice x n n) ∧ Below w.heap.size w w' ∧ w'.heap.size ≤ w.heap.size + 1 ∧ (n = 0 ∨ x = some ⟨w.heap.size, 0, none⟩ ∧ w'.rowIs w.heap.size 21 n (fun i => .int .i32 (v i))) := by
  have q : ∀ (w : World) (a : Option Addr) (n c n' c' : Nat), (binOp .eql 22 (.slice a n c) (.slice none n' c')).run Try.prog w = .ok (.bool a.isNone) w := fun w a n c n' c' => Lib.run_eql_slice_nil w _ _ a n c n' c' Try.underlying22
  have hmk := run_make_row' (P := Try.prog) 22 21 (.int .i32 0) 4 Try.underlying22 Try.info21 rfl .i64 .i64 n (by omega) (by omega)
  cases a with
  | none =>
    have h0 : n = 0 := by
      rcases h with h | ⟨b, off, e, _⟩
      · exact h
      · cases e
    subst h0
    go_enter Try.func7, Try.ntmps7
    go_wp2
    go_ret
    exact ⟨none, rfl, Below.refl _ _, by omega, by simp⟩
  | some a =>
    have H : Hid (Rd w (some a) n (fun i => .int .i32 (v i))) := h
    clear h
    go_enter Try.func7, Try.ntmps7
    go_wp2_with fail
    clear hmk q
    go_loopw [4] (fun vi wr => ∃ k : Nat, k ≤ n ∧ vi = .int .i64 k ∧ Hid (Below w.heap.size w wr ∧ wr.heap.size = w.heap.size + 1 ∧ Filled wr w.heap.size 21 n (fun i => .int .i32 (v i)) k)) (fun vi _ => n - (intOf vi).toNat)
    case atStart => exact ⟨0, Nat.zero_le _, rfl, (Below.refl _ _).alloc (Nat.le_refl _) _, by simp, ⟨_, World.rowIs_made _ _ _ _, fun j hj => by omega⟩⟩
    case round =>
      obtain ⟨k, hk, rfl, K⟩ := hrel
      by_cases hlt : k < n
      · obtain ⟨b, off, ea, hcell⟩ : ∃ b off, some a = some ⟨b, off, none⟩ ∧ ∀ i, i < n → w.cell? ⟨b, off + i, none⟩ = some (.int .i32 (v i)) := by
          rcases H.out with h | h
          · omega
          · exact h
        obtain rfl : a = ⟨b, off, none⟩ := by simpa using ea
        have hr := (K.out.1.cell (p := ⟨b, off + k, none⟩) (cell_lt (hcell k hlt))).trans (hcell k hlt)
        obtain ⟨g, hg1, hg2⟩ := K.out.2.2
        have hc := hg1.cell (i := k) hlt
        have hf := hg1.frozen k
        obtain ⟨x, hx⟩ : ∃ x, x = v k := ⟨_, rfl⟩
        rw [← hx] at hr
        have HX : Hid (x = v k) := hx
        clear hg1 hg2 hcell ea hx
        go_wp2
        go_roundw
        case rel => exact ⟨k + 1, by omega, by go_num, K.out.1.setCell (Nat.le_refl _) _, by simpa [World.setCell] using K.out.2.1, K.out.2.2.store (by rw [HX.out])⟩
        case measure => simp [intOf]; omega
      · go_wp2
        go_ret
        have e : k = n := by omega
        subst e
        exact ⟨_, rfl, K.out.1, by rw [K.out.2.1]; exact Nat.le_refl _, Or.inr ⟨rfl, K.out.2.2.whole⟩⟩

/-- zzCloneBool -/
theorem cloneB_any (a : Option Addr) (n c : Nat) (v : Nat → Bool) (w : World) (hn : n ≤ 65536) (h : Rd w a n (fun i => .bool (v i))) :
    Calls Try.prog 8 #[.slice a n c] w fun e w' => ∃ x, e = .returned (.slice x n n) ∧ Below w.heap.size w w' ∧ w'.heap.size ≤ w.heap.size + 1 ∧ (n = 0 ∨ x = some ⟨w.heap.size, 0, none⟩ ∧ w'.rowIs w.heap.size 4 n (fun i => .bool (v i))) := by
  have q : ∀ (w : World) (a : Option Addr) (n c n' c' : Nat), (binOp .eql 23 (.slice a n c) (.slice none n' c')).run Try.prog w = .ok (.bool a.isNone) w := fun w a n c n' c' => Lib.run_eql_slice_nil w _ _ a n c n' c' Try.underlying23
  have hmk := run_make_row' (P := Try.prog) 23 4 (.bool false) 1 Try.underlying23 Try.info4 rfl .i64 .i64 n (by omega) (by omega)
  cases a with
  | none =>
    have h0 : n = 0 := by
      rcases h with h | ⟨b, off, e, _⟩
      · exact h
      · cases e
    subst h0
    go_enter Try.func8, Try.ntmps8
    go_wp2
    go_ret
    exact ⟨none, rfl, Below.refl _ _, by omega, by simp⟩
  | some a =>
    have H : Hid (Rd w (some a) n (fun i => .bool (v i))) := h
    clear h
    go_enter Try.func8, Try.ntmps8
    go_wp2_with fail
    clear hmk q
    go_loopw [4] (fun vi wr => ∃ k : Nat, k ≤ n ∧ vi = .int .i64 k ∧ Hid (Below w.heap.size w wr ∧ wr.heap.size = w.heap.size + 1 ∧ Filled wr w.heap.size 4 n (fun i => .bool (v i)) k)) (fun vi _ => n - (intOf vi).toNat)
    case atStart => exact ⟨0, Nat.zero_le _, rfl, (Below.refl _ _).alloc (Nat.le_refl _) _, by simp, ⟨_, World.rowIs_made _ _ _ _, fun j hj => by omega⟩⟩
    case round =>
      obtain ⟨k, hk, rfl, K⟩ := hrel
      by_cases hlt : k < n
      · obtain ⟨b, off, ea, hcell⟩ : ∃ b off, some a = some ⟨b, off, none⟩ ∧ ∀ i, i < n → w.cell? ⟨b, off + i, none⟩ = some (.bool (v i)) := by
          rcases H.out with h | h
          · omega
          · exact h
        obtain rfl : a = ⟨b, off, none⟩ := by simpa using ea
        have hr := (K.out.1.cell (p := ⟨b, off + k, none⟩) (cell_lt (hcell k hlt))).trans (hcell k hlt)
        obtain ⟨g, hg1, hg2⟩ := K.out.2.2
        have hc := hg1.cell (i := k) hlt
        have hf := hg1.frozen k
        obtain ⟨x, hx⟩ : ∃ x, x = v k := ⟨_, rfl⟩
        rw [← hx] at hr
        have HX : Hid (x = v k) := hx
        clear hg1 hg2 hcell ea hx
        go_wp2
        go_roundw
        case rel => exact ⟨k + 1, by omega, by go_num, K.out.1.setCell (Nat.le_refl _) _, by simpa [World.setCell] using K.out.2.1, K.out.2.2.store (by rw [HX.out])⟩
        case measure => simp [intOf]; omega
      · go_wp2
        go_ret
        have e : k = n := by omega
        subst e
        exact ⟨_, rfl, K.out.1, by rw [K.out.2.1]; exact Nat.le_refl _, Or.inr ⟨rfl, K.out.2.2.whole⟩⟩
end Go.Proofs.Qxb6608693a

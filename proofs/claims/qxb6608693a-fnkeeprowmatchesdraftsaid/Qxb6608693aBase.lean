/-
  Words for the sort's walks: what a step may turn in the world ('Step': block b, new blocks, draws), the row that lies in block b ('Row'), cmp.Less at int32.
-/
import Derived.Test.Qxb6608693aRows
import Derived.Test.Qxb6608693aPure
import Derived.WalkKit
import Derived.WalkSpells
import Derived.ProofKit
import Derived.Deep.OwnRows
import Derived.Deep.QuietTactic
import Derived.BigQuiet
import Derived.BigRegion
namespace Go.Proofs.Qxb6608693a.Srt
open Go.RowKit Go.Deep
set_option linter.unusedVariables false

/-- of what was there only block b may have turned -/
structure Step (b : Nat) (w w' : World) : Prop where
  os : w'.os = w.os
  tape : w'.tape = w.tape
  output : w'.output = w.output
  size : w.heap.size ≤ w'.heap.size
  block : ∀ k, k < w.heap.size → k ≠ b → w'.heap[k]? = w.heap[k]?
theorem Step.refl (b : Nat) (w : World) : Step b w w := ⟨rfl, rfl, rfl, Nat.le_refl _, fun _ _ _ => rfl⟩
theorem Step.trans {b : Nat} {w1 w2 w3 : World} (h : Step b w1 w2) (k : Step b w2 w3) : Step b w1 w3 :=
  ⟨k.os.trans h.os, k.tape.trans h.tape, k.output.trans h.output, Nat.le_trans h.size k.size, fun i h1 h2 => (k.block i (Nat.lt_of_lt_of_le h1 h.size) h2).trans (h.block i h1 h2)⟩
theorem Step.drewN {b : Nat} {w1 w2 : World} (h : Step b w1 w2) (q : Nat) : Step b w1 (w2.drewN q) := h.trans ⟨rfl, rfl, rfl, Nat.le_refl _, fun _ _ _ => rfl⟩
theorem Step.drew {b : Nat} {w1 w2 : World} (h : Step b w1 w2) : Step b w1 w2.drew := h.trans ⟨rfl, rfl, rfl, Nat.le_refl _, fun _ _ _ => rfl⟩
theorem Step.set {b : Nat} {w1 w2 : World} (h : Step b w1 w2) (i : Nat) (v : Value) : Step b w1 (w2.setCell ⟨b, i, none⟩ v) :=
  h.trans ⟨rfl, rfl, rfl, by simp [World.setCell], fun k _ hk => Below.heap_setCell _ _ _ _ hk⟩
theorem Step.alloc {b : Nat} {w1 w2 : World} (h : Step b w1 w2) (o : Obj) : Step b w1 (w2.alloc o) :=
  h.trans ⟨rfl, rfl, rfl, by simp, fun k hk _ => Below.heap_alloc _ _ _ hk⟩
/-- a store into a block that was not there at the start -/
theorem Step.setNew {b : Nat} {w1 w2 : World} (h : Step b w1 w2) {a : Addr} (ha : w1.heap.size ≤ a.block) (v : Value) : Step b w1 (w2.setCell a v) :=
  ⟨h.os, h.tape, h.output, by simpa [World.setCell] using h.size, fun k hk hb => (Below.heap_setCell _ _ _ _ (by omega)).trans (h.block k hk hb)⟩

/-- block b is a row of n int32s, f -/
def Row (w : World) (b n : Nat) (f : Nat → Int) : Prop := w.rowIs b 21 n (fun j => .int .i32 (f j))
theorem Row.drewN {w : World} {b n : Nat} {f : Nat → Int} (h : Row w b n f) (q : Nat) : Row (w.drewN q) b n f := World.rowIs.of_block h rfl
theorem Row.cell {w : World} {b n : Nat} {f : Nat → Int} (h : Row w b n f) {i : Nat} (hi : i < n) : w.cell? ⟨b, i, none⟩ = some (.int .i32 (f i)) := World.rowIs.cell h hi
theorem Row.frozen {w : World} {b n : Nat} {f : Nat → Int} (h : Row w b n f) (i : Nat) : w.frozen? ⟨b, i, none⟩ = false := World.rowIs.frozen h i
theorem Row.alloc {w : World} {b n : Nat} {f : Nat → Int} (h : Row w b n f) (o : Obj) : Row (w.alloc o) b n f := World.rowIs.alloc h o
theorem Row.lt {w : World} {b n : Nat} {f : Nat → Int} (h : Row w b n f) : b < w.heap.size := World.rowIs.lt h
theorem Row.setOther {w : World} {b n : Nat} {f : Nat → Int} (h : Row w b n f) {a : Addr} (ha : b ≠ a.block) (v : Value) : Row (w.setCell a v) b n f := World.rowIs.setOther h ha v
theorem Row.swap {w : World} {b n : Nat} {f : Nat → Int} (h : Row w b n f) (i j : Nat) {x y : Int} (hx : x = f j) (hy : y = f i) :
    Row ((w.setCell ⟨b, i, none⟩ (.int .i32 x)).setCell ⟨b, j, none⟩ (.int .i32 y)) b n (Sw f i j) := by
  subst hx; subst hy
  refine World.rowIs.congr (World.rowIs.set (World.rowIs.set h i (.int .i32 (f j))) j (.int .i32 (f i))) fun t ht => ?_
  unfold Sw
  by_cases h1 : t = j
  · simp [h1]
  · by_cases h2 : t = i
    · subst h2; simp [h1]
    · simp [h1, h2]

/-- an int in its bounds is not wrapped (inside a region that draws the walk leaves the wrap standing) -/
theorem wrap_id (x : Int) (h0 : -9223372036854775808 ≤ x) (h1 : x ≤ 9223372036854775807) : IntKind.i64.wrap x = x := by
  rw [IntKind.wrap_i64]; omega

theorem isNaN_any (x : Int) (w : World) : Calls Try.prog 49 #[.int .i32 x] w fun e w' => e = .returned (.bool false) ∧ w' = w := by
  go_enter Try.func49, Try.ntmps49
  go_wp2
  go_ret
  exact ⟨by simp, rfl⟩
def lt (x y : Int) : Bool := decide (x < y)
theorem lt_yes {x y : Int} (h : lt x y = true) : x < y := by simpa [lt] using h
theorem lt_no {x y : Int} (h : lt x y = false) : y ≤ x := by simpa [lt] using h
theorem less_any (x y : Int) (w : World) : Calls Try.prog 37 #[.int .i32 x, .int .i32 y] w fun e w' => e = .returned (.bool (lt x y)) ∧ w' = w := by
  go_enter Try.func37, Try.ntmps37
  go_wp2_with (go_at_call 49; refine (isNaN_any _ _).mono ?_; rintro e w' ⟨rfl, rfl⟩)
  go_ret
  exact ⟨by simp [lt], rfl⟩
end Go.Proofs.Qxb6608693a.Srt

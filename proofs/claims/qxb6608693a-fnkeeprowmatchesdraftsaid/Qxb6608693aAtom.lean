import Derived.Test.Qxb6608693aClone
import Derived.Laws.LoneSync
import Derived.Lib.Builder
namespace Go.Proofs.Qxb6608693a
open Go.RowKit Go.Deep
set_option linter.unusedVariables false

theorem ptr_load {a : Addr} {p : Option Addr} {w : World} (hc : w.cell? a = some (.pointer p)) : (callFunc 29 #[.pointer (some a)]).run Try.prog w = .ok (.value (.pointer p)) w := by
  rw [run_callFunc_extern Try.func29 (by kernel_rfl) (by kernel_rfl) (by kernel_rfl) (e := Extern.Atomic.loadT .ptr) (by kernel_rfl)]
  change (Sem.run Try.prog (do Extern.Atomic.read .ptr (← asAddr (.pointer (some a)))) w).andThen _ = _
  simp [Extern.Atomic.read, asAddr, hc, Result.andThen]
theorem ptr_store {a : Addr} {p : Option Addr} {u : Value} {w : World} (hc : w.cell? a = some u) (hz : w.frozen? a = false) : (callFunc 42 #[.pointer (some a), .pointer p]).run Try.prog w = .ok (.value (.tuple #[])) (w.setCell a (.pointer p)) := by
  rw [run_callFunc_extern Try.func42 (by kernel_rfl) (by kernel_rfl) (by kernel_rfl) (e := Extern.Atomic.storeT) (by kernel_rfl)]
  change (Sem.run Try.prog (do
    store (← asAddr (.pointer (some a))) (.pointer p) .atomic
    pure Extern.Atomic.none_) w).andThen _ = _
  simp [asAddr, hc, hz, run_store Try.prog w a (.pointer p) .atomic rfl, Result.andThen, Extern.Atomic.none_]
theorem conv_nil (w : World) : (convert 48 44 (.pointer none)).run Try.prog w = .ok (.pointer none) w := by
  simp [convert, run_underlying Try.underlying48, run_underlying Try.underlying44, Conv.unsafePointer]
theorem load_nil (b o : Nat) (w : World) (h : w.cell? ⟨b, o, none⟩ = some (.pointer none)) :
    Calls Try.prog 24 #[.pointer (some ⟨b, o, none⟩)] w fun e w' => e = .returned (.pointer none) ∧ w' = w := by
  have hl := ptr_load h
  have hc := conv_nil w
  go_enter Try.func24, Try.ntmps24
  go_wp2
  go_ret
  exact ⟨rfl, rfl⟩
theorem Try.size66 : (Try.prog.info? 66).map (fun i => decide (i.size = 0)) = some false := by kernel_rfl
theorem lies66 : liesAt Try.prog Try.prog.depth 66 (1 / Try.prog.cellsOf 66) 0 66 1 = true := by kernel_rfl
theorem conv_some (rb : Nat) (w : World) (hs : w.shape? rb = some (66, 1)) : (convert 48 44 (.pointer (some ⟨rb, 0, none⟩))).run Try.prog w = .ok (.pointer (some ⟨rb, 0, none⟩)) w := by
  obtain ⟨j, hj, _⟩ := Option.map_eq_some_iff.1 Try.size66
  exact Lib.run_from_unsafe (w := w) ⟨rb, 0, none⟩ Try.underlying48 Try.underlying44 hj hs lies66
theorem load_some (b o rb : Nat) (w : World) (h : w.cell? ⟨b, o, none⟩ = some (.pointer (some ⟨rb, 0, none⟩))) (hs : w.shape? rb = some (66, 1)) :
    Calls Try.prog 24 #[.pointer (some ⟨b, o, none⟩)] w fun e w' => e = .returned (.pointer (some ⟨rb, 0, none⟩)) ∧ w' = w := by
  have hl := ptr_load h
  have hc := conv_some rb w hs
  go_enter Try.func24, Try.ntmps24
  go_wp2
  go_ret
  exact ⟨rfl, rfl⟩
theorem store_any (b o rb : Nat) (u v : Value) (w : World) (h : w.cell? ⟨b, o, none⟩ = some u) (hz : w.frozen? ⟨b, o, none⟩ = false) (hr : w.cell? ⟨rb, 0, none⟩ = some v) :
    Calls Try.prog 28 #[.pointer (some ⟨b, o, none⟩), .pointer (some ⟨rb, 0, none⟩)] w fun e w' => e = .returned (.tuple #[]) ∧ w' = w.setCell ⟨b, o, none⟩ (.pointer (some ⟨rb, 0, none⟩)) := by
  have hl := ptr_store (p := some ⟨rb, 0, none⟩) h hz
  have hc := run_convert_to_unsafe (P := Try.prog) Try.underlying44 Try.underlying48 Try.size66 hr
  go_enter Try.func28, Try.ntmps28
  go_wp2
  go_end0
  exact ⟨rfl, rfl⟩
theorem made_nil (b o : Nat) (w : World) (h : w.cell? ⟨b, o, none⟩ = some (.pointer none)) :
    Calls Try.prog 19 #[.pointer (some ⟨b, o, none⟩)] w fun e w' => e = .returned (.slice none 0 0) ∧ w' = w := by
  go_enter Try.func19, Try.ntmps19
  go_wp2_with (go_at_call 24; refine (load_nil b o _ h).mono ?_; rintro e w' ⟨rfl, rfl⟩)
  go_ret
  exact ⟨rfl, rfl⟩
theorem made_some (b o rb : Nat) (v : Value) (w : World) (h : w.cell? ⟨b, o, none⟩ = some (.pointer (some ⟨rb, 0, none⟩))) (hs : w.shape? rb = some (66, 1)) (hv : w.cell? ⟨rb, 0, none⟩ = some v) :
    Calls Try.prog 19 #[.pointer (some ⟨b, o, none⟩)] w fun e w' => e = .returned v ∧ w' = w := by
  go_enter Try.func19, Try.ntmps19
  go_wp2_with (go_at_call 24; refine (load_some b o rb _ h hs).mono ?_; rintro e w' ⟨rfl, rfl⟩)
  go_ret
  exact ⟨rfl, rfl⟩
end Go.Proofs.Qxb6608693a

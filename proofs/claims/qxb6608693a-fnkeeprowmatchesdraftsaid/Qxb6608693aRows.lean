/-
  No cell of these rows narrows 'for every input' (looked for: loops, veiled, ifaces, maps, wideKeys, modest, calm, conditions, laid).
  DERIVED. THE GIVEN ROWS OF THIS SEAT. 2 by the template 'for every input the law returns true; each argument reads behind the call as it read before'; 0 by the template 'total and deterministic' (their statements: Qxb6608693aTotals.lean).
  GIVEN WITH THE SEED: the statements are not yours to turn. If you find one false, say at which input.
  Laid BY PROGRAM, IN A SANDBOX (cutbox-rows.mjs): the forced cells as the released guide's own fill.sh prints them over the translation 74df8b4b98133d41… (all of the seat's roots in one cut). By AI agents, Wed Nov 11 2026. No macro, syntax, notation, axiom, sorry.
-/
import Derived.Test.Qxb6608693aChecked
import GoSem.Claim
import GoSem.ClaimJoined
import GoSem.ClaimMapViews
import Derived.JoinedTies
import Derived.KernelRfl
namespace Go.Proofs.Qxb6608693a
/- THE CELL 'sum', in the pinned program and in every row, IS THE sha256 OF THE DUMP (.gsa) THAT Qxb6608693aProg.lean LOADS. Nothing in Lean hashes anything: it is a label: what it is worth is what the hold of that sum in a sandbox is worth. -/
noncomputable def Try.pinned : Pinned := { name := "qxb6608693a", sum := "74df8b4b98133d41153d3a73778d600638a8d5a10dbc95baf3fd02e2bb56dfdc", checked := Try.checked }
namespace Rows
def none {H : Type} : Left H := { results := [], args := [] }

/-- 'zzlaws_root_b1.FnKeepRowMatchesDraft': WHATEVER THE INPUT: true; the input reads as it did. -/
def fnKeepRowMatchesDraftSpec : ChangeSpec := { name := "fnKeepRowMatchesDraft", fn := fun _ => fun
  | [d1, d2, d3] => { results := [.lit (.bool true)], args := [d1, d2, d3] }
  | _ => none }
def fnKeepRowMatchesDraftRow : OpenClaim := { program := "qxb6608693a", sum := "74df8b4b98133d41153d3a73778d600638a8d5a10dbc95baf3fd02e2bb56dfdc", func := "example.com/weft/weft/zzlaws_root_b1.FnKeepRowMatchesDraft", spec := "fnKeepRowMatchesDraft", inPlace := ["sync/atomic.LoadPointer", "sync/atomic.StorePointer"], recurses := true, apart := false }
def FnKeepRowMatchesDraftSaid : Prop := fnKeepRowMatchesDraftRow.holds Try.pinned (OpenSpec.ofChange fnKeepRowMatchesDraftSpec)

/-- ITS FALSE NEIGHBOUR: 'it returns false'. Refute it at one input. -/
def fnKeepRowMatchesDraftWrong : ChangeSpec := { name := "fnKeepRowMatchesDraft", fn := fun _ => fun
  | [d1, d2, d3] => { results := [.lit (.bool false)], args := [d1, d2, d3] }
  | _ => none }
def FnKeepRowMatchesDraftWrongFalsely : Prop := fnKeepRowMatchesDraftRow.holds Try.pinned (OpenSpec.ofChange fnKeepRowMatchesDraftWrong)

/-- 'zzlaws_root_b1.FnKeepRowTwoRowsReadBack': WHATEVER THE INPUT: true; the input reads as it did. -/
def fnKeepRowTwoRowsReadBackSpec : ChangeSpec := { name := "fnKeepRowTwoRowsReadBack", fn := fun _ => fun
  | [d1, d2, d3, d4, d5, d6] => { results := [.lit (.bool true)], args := [d1, d2, d3, d4, d5, d6] }
  | _ => none }
def fnKeepRowTwoRowsReadBackRow : OpenClaim := { program := "qxb6608693a", sum := "74df8b4b98133d41153d3a73778d600638a8d5a10dbc95baf3fd02e2bb56dfdc", func := "example.com/weft/weft/zzlaws_root_b1.FnKeepRowTwoRowsReadBack", spec := "fnKeepRowTwoRowsReadBack", inPlace := ["sync/atomic.LoadPointer", "sync/atomic.StorePointer"], recurses := true, apart := false }
def FnKeepRowTwoRowsReadBackSaid : Prop := fnKeepRowTwoRowsReadBackRow.holds Try.pinned (OpenSpec.ofChange fnKeepRowTwoRowsReadBackSpec)

/-- ITS FALSE NEIGHBOUR: 'it returns false'. Refute it at one input. -/
def fnKeepRowTwoRowsReadBackWrong : ChangeSpec := { name := "fnKeepRowTwoRowsReadBack", fn := fun _ => fun
  | [d1, d2, d3, d4, d5, d6] => { results := [.lit (.bool false)], args := [d1, d2, d3, d4, d5, d6] }
  | _ => none }
def FnKeepRowTwoRowsReadBackWrongFalsely : Prop := fnKeepRowTwoRowsReadBackRow.holds Try.pinned (OpenSpec.ofChange fnKeepRowTwoRowsReadBackWrong)

end Rows
end Go.Proofs.Qxb6608693a

/-
  No cell of these rows narrows 'for every input' (looked for: loops, veiled, ifaces, maps, wideKeys, modest, calm, conditions, laid).
  DERIVED. THE GIVEN ROWS OF THIS SEAT. 3 by the template 'for every input the law returns true; each argument reads behind the call as it read before'; 0 by the template 'total and deterministic' (their statements: Qxb6605998aTotals.lean).
  GIVEN WITH THE SEED: the statements are not yours to turn. If you find one false, say at which input.
  Laid BY PROGRAM, IN A SANDBOX (cutbox-rows.mjs): the forced cells as the released guide's own fill.sh prints them over the translation 90b3824fcd488d25… (all of the seat's roots in one cut). By AI agents, Wed Nov 11 2026. No macro, syntax, notation, axiom, sorry.
-/
import Derived.Test.Qxb6605998aChecked
import GoSem.Claim
import GoSem.ClaimJoined
import GoSem.ClaimMapViews
import Derived.JoinedTies
import Derived.KernelRfl
namespace Go.Proofs.Qxb6605998a
/- THE CELL 'sum', in the pinned program and in every row, IS THE sha256 OF THE DUMP (.gsa) THAT Qxb6605998aProg.lean LOADS. Nothing in Lean hashes anything: it is a label: what it is worth is what the hold of that sum in a sandbox is worth. -/
noncomputable def Try.pinned : Pinned := { name := "qxb6605998a", sum := "90b3824fcd488d25e9a3b5dad0d23b18f9ce99371cc25e6c4d03256578ee951e", checked := Try.checked }
namespace Rows
def none {H : Type} : Left H := { results := [], args := [] }

/-- 'zzlaws_pkg_decision_b1.FnMatchesActionAgainstGlobModel': WHATEVER THE INPUT: true; the input reads as it did. -/
def fnMatchesActionAgainstGlobModelSpec : ChangeSpec := { name := "fnMatchesActionAgainstGlobModel", fn := fun _ => fun
  | [d1, d2, d3, d4] => { results := [.lit (.bool true)], args := [d1, d2, d3, d4] }
  | _ => none }
def fnMatchesActionAgainstGlobModelRow : OpenClaim := { program := "qxb6605998a", sum := "90b3824fcd488d25e9a3b5dad0d23b18f9ce99371cc25e6c4d03256578ee951e", func := "example.com/runnymede/runnymede/zzlaws_pkg_decision_b1.FnMatchesActionAgainstGlobModel", spec := "fnMatchesActionAgainstGlobModel", inPlace := ["internal/bytealg.IndexByteString", "internal/bytealg.IndexString"], named := ["internal/bytealg.MaxLen"], apart := false }
def FnMatchesActionAgainstGlobModelSaid : Prop := fnMatchesActionAgainstGlobModelRow.holds Try.pinned (OpenSpec.ofChange fnMatchesActionAgainstGlobModelSpec)

/-- ITS FALSE NEIGHBOUR: 'it returns false'. Refute it at one input. -/
def fnMatchesActionAgainstGlobModelWrong : ChangeSpec := { name := "fnMatchesActionAgainstGlobModel", fn := fun _ => fun
  | [d1, d2, d3, d4] => { results := [.lit (.bool false)], args := [d1, d2, d3, d4] }
  | _ => none }
def FnMatchesActionAgainstGlobModelWrongFalsely : Prop := fnMatchesActionAgainstGlobModelRow.holds Try.pinned (OpenSpec.ofChange fnMatchesActionAgainstGlobModelWrong)

/-- 'zzlaws_pkg_decision_b1.FnMatchesActionEachPatternNamesItself': WHATEVER THE INPUT: true; the input reads as it did. -/
def fnMatchesActionEachPatternNamesItselfSpec : ChangeSpec := { name := "fnMatchesActionEachPatternNamesItself", fn := fun _ => fun
  | [d] => { results := [.lit (.bool true)], args := [d] }
  | _ => none }
def fnMatchesActionEachPatternNamesItselfRow : OpenClaim := { program := "qxb6605998a", sum := "90b3824fcd488d25e9a3b5dad0d23b18f9ce99371cc25e6c4d03256578ee951e", func := "example.com/runnymede/runnymede/zzlaws_pkg_decision_b1.FnMatchesActionEachPatternNamesItself", spec := "fnMatchesActionEachPatternNamesItself", inPlace := ["internal/bytealg.IndexByteString", "internal/bytealg.IndexString"], named := ["internal/bytealg.MaxLen"], apart := false }
def FnMatchesActionEachPatternNamesItselfSaid : Prop := fnMatchesActionEachPatternNamesItselfRow.holds Try.pinned (OpenSpec.ofChange fnMatchesActionEachPatternNamesItselfSpec)

/-- ITS FALSE NEIGHBOUR: 'it returns false'. Refute it at one input. -/
def fnMatchesActionEachPatternNamesItselfWrong : ChangeSpec := { name := "fnMatchesActionEachPatternNamesItself", fn := fun _ => fun
  | [d] => { results := [.lit (.bool false)], args := [d] }
  | _ => none }
def FnMatchesActionEachPatternNamesItselfWrongFalsely : Prop := fnMatchesActionEachPatternNamesItselfRow.holds Try.pinned (OpenSpec.ofChange fnMatchesActionEachPatternNamesItselfWrong)

/-- 'zzlaws_pkg_decision_b1.FnExpiredAtFromItsInstantOn': WHATEVER THE INPUT: true; the input reads as it did. -/
def fnExpiredAtFromItsInstantOnSpec : ChangeSpec := { name := "fnExpiredAtFromItsInstantOn", fn := fun _ => fun
  | [d] => { results := [.lit (.bool true)], args := [d] }
  | _ => none }
def fnExpiredAtFromItsInstantOnRow : OpenClaim := { program := "qxb6605998a", sum := "90b3824fcd488d25e9a3b5dad0d23b18f9ce99371cc25e6c4d03256578ee951e", func := "example.com/runnymede/runnymede/zzlaws_pkg_decision_b1.FnExpiredAtFromItsInstantOn", spec := "fnExpiredAtFromItsInstantOn", apart := false }
def FnExpiredAtFromItsInstantOnSaid : Prop := fnExpiredAtFromItsInstantOnRow.holds Try.pinned (OpenSpec.ofChange fnExpiredAtFromItsInstantOnSpec)

/-- ITS FALSE NEIGHBOUR: 'it returns false'. Refute it at one input. -/
def fnExpiredAtFromItsInstantOnWrong : ChangeSpec := { name := "fnExpiredAtFromItsInstantOn", fn := fun _ => fun
  | [d] => { results := [.lit (.bool false)], args := [d] }
  | _ => none }
def FnExpiredAtFromItsInstantOnWrongFalsely : Prop := fnExpiredAtFromItsInstantOnRow.holds Try.pinned (OpenSpec.ofChange fnExpiredAtFromItsInstantOnWrong)

end Rows
end Go.Proofs.Qxb6605998a

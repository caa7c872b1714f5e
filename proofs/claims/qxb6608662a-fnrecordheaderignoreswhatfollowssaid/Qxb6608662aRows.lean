/-
  No cell of these rows narrows 'for every input' (looked for: loops, veiled, ifaces, maps, wideKeys, modest, calm, conditions, laid).
  DERIVED. THE GIVEN ROWS OF THIS SEAT. 2 by the template 'for every input the law returns true; each argument reads behind the call as it read before'; 0 by the template 'total and deterministic' (their statements: Qxb6608662aTotals.lean).
  GIVEN WITH THE SEED: the statements are not yours to turn. If you find one false, say at which input.
  Laid BY PROGRAM, IN A SANDBOX (cutbox-rows.mjs): the forced cells as the released guide's own fill.sh prints them over the translation 6d7679d248c12664… (all of the seat's roots in one cut). By AI agents, Wed Nov 11 2026. No macro, syntax, notation, axiom, sorry.
-/
import Derived.Test.Qxb6608662aChecked
import GoSem.Claim
import GoSem.ClaimJoined
import GoSem.ClaimMapViews
import Derived.JoinedTies
import Derived.KernelRfl
namespace Go.Proofs.Qxb6608662a
/- THE CELL 'sum', in the pinned program and in every row, IS THE sha256 OF THE DUMP (.gsa) THAT Qxb6608662aProg.lean LOADS. Nothing in Lean hashes anything: it is a label: what it is worth is what the hold of that sum in a sandbox is worth. -/
noncomputable def Try.pinned : Pinned := { name := "qxb6608662a", sum := "6d7679d248c126648da8890c9182ebb22e47d0d3dbabf3aa49d5d8ae4f67b8f9", checked := Try.checked }
namespace Rows
def none {H : Type} : Left H := { results := [], args := [] }

/-- 'zzlaws_pkg_stream_b1.FnRecordHeaderIgnoresWhatFollows': WHATEVER THE INPUT: true; the input reads as it did. -/
def fnRecordHeaderIgnoresWhatFollowsSpec : ChangeSpec := { name := "fnRecordHeaderIgnoresWhatFollows", fn := fun _ => fun
  | [d1, d2, d3, d4, d5, d6, d7, d8, d9, d10] => { results := [.lit (.bool true)], args := [d1, d2, d3, d4, d5, d6, d7, d8, d9, d10] }
  | _ => none }
def fnRecordHeaderIgnoresWhatFollowsRow : OpenClaim := { program := "qxb6608662a", sum := "6d7679d248c126648da8890c9182ebb22e47d0d3dbabf3aa49d5d8ae4f67b8f9", func := "example.com/valentia/valentia/zzlaws_pkg_stream_b1.FnRecordHeaderIgnoresWhatFollows", spec := "fnRecordHeaderIgnoresWhatFollows", apart := false }
def FnRecordHeaderIgnoresWhatFollowsSaid : Prop := fnRecordHeaderIgnoresWhatFollowsRow.holds Try.pinned (OpenSpec.ofChange fnRecordHeaderIgnoresWhatFollowsSpec)

/-- ITS FALSE NEIGHBOUR: 'it returns false'. Refute it at one input. -/
def fnRecordHeaderIgnoresWhatFollowsWrong : ChangeSpec := { name := "fnRecordHeaderIgnoresWhatFollows", fn := fun _ => fun
  | [d1, d2, d3, d4, d5, d6, d7, d8, d9, d10] => { results := [.lit (.bool false)], args := [d1, d2, d3, d4, d5, d6, d7, d8, d9, d10] }
  | _ => none }
def FnRecordHeaderIgnoresWhatFollowsWrongFalsely : Prop := fnRecordHeaderIgnoresWhatFollowsRow.holds Try.pinned (OpenSpec.ofChange fnRecordHeaderIgnoresWhatFollowsWrong)

/-- 'zzlaws_pkg_stream_b1.FnRecordHeaderEndsBeforePayloadAndSum': WHATEVER THE INPUT: true; the input reads as it did. -/
def fnRecordHeaderEndsBeforePayloadAndSumSpec : ChangeSpec := { name := "fnRecordHeaderEndsBeforePayloadAndSum", fn := fun _ => fun
  | [d1, d2, d3, d4, d5] => { results := [.lit (.bool true)], args := [d1, d2, d3, d4, d5] }
  | _ => none }
def fnRecordHeaderEndsBeforePayloadAndSumRow : OpenClaim := { program := "qxb6608662a", sum := "6d7679d248c126648da8890c9182ebb22e47d0d3dbabf3aa49d5d8ae4f67b8f9", func := "example.com/valentia/valentia/zzlaws_pkg_stream_b1.FnRecordHeaderEndsBeforePayloadAndSum", spec := "fnRecordHeaderEndsBeforePayloadAndSum", apart := false }
def FnRecordHeaderEndsBeforePayloadAndSumSaid : Prop := fnRecordHeaderEndsBeforePayloadAndSumRow.holds Try.pinned (OpenSpec.ofChange fnRecordHeaderEndsBeforePayloadAndSumSpec)

/-- ITS FALSE NEIGHBOUR: 'it returns false'. Refute it at one input. -/
def fnRecordHeaderEndsBeforePayloadAndSumWrong : ChangeSpec := { name := "fnRecordHeaderEndsBeforePayloadAndSum", fn := fun _ => fun
  | [d1, d2, d3, d4, d5] => { results := [.lit (.bool false)], args := [d1, d2, d3, d4, d5] }
  | _ => none }
def FnRecordHeaderEndsBeforePayloadAndSumWrongFalsely : Prop := fnRecordHeaderEndsBeforePayloadAndSumRow.holds Try.pinned (OpenSpec.ofChange fnRecordHeaderEndsBeforePayloadAndSumWrong)

end Rows
end Go.Proofs.Qxb6608662a

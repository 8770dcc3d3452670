/-
  No cell of these rows narrows 'for every input' (looked for: loops, veiled, ifaces, maps, wideKeys, modest, calm, conditions, laid).
  DERIVED. THE GIVEN ROWS OF THIS SEAT. 2 by the template 'for every input the law returns true; each argument reads behind the call as it read before'; 0 by the template 'total and deterministic' (their statements: Qxb6612364aModsTotals.lean).
  GIVEN WITH THE SEED: the statements are not yours to turn. If you find one false, say at which input.
  Laid BY PROGRAM, IN A SANDBOX (cutbox-rows.mjs): the forced cells as the released guide's own fill.sh prints them over the translation 59e7efa6c6255b80… (all of the seat's roots in one cut). By AI agents, Wed Nov 11 2026. No macro, syntax, notation, axiom, sorry.
-/
import Derived.Test.Qxb6612364aModsChecked
import GoSem.Claim
import GoSem.ClaimJoined
import GoSem.ClaimMapViews
import Derived.JoinedTies
import Derived.KernelRfl
namespace Go.Proofs.Qxb6612364aMods
/- THE CELL 'sum', in the pinned program and in every row, IS THE sha256 OF THE DUMP (.gsa) THAT Qxb6612364aModsProg.lean LOADS. Nothing in Lean hashes anything: it is a label: what it is worth is what the hold of that sum in a sandbox is worth. -/
noncomputable def Trym.pinned : Pinned := { name := "qxb6612364amods", sum := "59e7efa6c6255b80fa57c746fc1b0fd54dcd6d1c00d04a4e6c4d841f57754038", checked := Trym.checked }
namespace Rows
def none {H : Type} : Left H := { results := [], args := [] }

/-- 'zzlaws_root_b1.FnNewMemDirsShareNothing': WHATEVER THE INPUT: true; the input reads as it did. -/
def fnNewMemDirsShareNothingSpec : ChangeSpec := { name := "fnNewMemDirsShareNothing", fn := fun _ => fun
  | [d] => { results := [.lit (.bool true)], args := [d] }
  | _ => none }
def fnNewMemDirsShareNothingRow : OpenClaim := { program := "qxb6612364amods", sum := "59e7efa6c6255b80fa57c746fc1b0fd54dcd6d1c00d04a4e6c4d841f57754038", func := "example.com/acephal/acephal/zzlaws_root_b1.FnNewMemDirsShareNothing", spec := "fnNewMemDirsShareNothing", make := .lifted ["publicsums"], apart := false }
def FnNewMemDirsShareNothingSaid : Prop := fnNewMemDirsShareNothingRow.holds Trym.pinned (OpenSpec.ofChange fnNewMemDirsShareNothingSpec)

/-- ITS FALSE NEIGHBOUR: 'it returns false'. Refute it at one input. -/
def fnNewMemDirsShareNothingWrong : ChangeSpec := { name := "fnNewMemDirsShareNothing", fn := fun _ => fun
  | [d] => { results := [.lit (.bool false)], args := [d] }
  | _ => none }
def FnNewMemDirsShareNothingWrongFalsely : Prop := fnNewMemDirsShareNothingRow.holds Trym.pinned (OpenSpec.ofChange fnNewMemDirsShareNothingWrong)

/-- 'zzlaws_root_b1.FnMatchingIsLeastCountWithACorrectReplica': WHATEVER THE INPUT: true; the input reads as it did. -/
def fnMatchingIsLeastCountWithACorrectReplicaSpec : ChangeSpec := { name := "fnMatchingIsLeastCountWithACorrectReplica", fn := fun _ => fun
  | [d1, d2] => { results := [.lit (.bool true)], args := [d1, d2] }
  | _ => none }
def fnMatchingIsLeastCountWithACorrectReplicaRow : OpenClaim := { program := "qxb6612364amods", sum := "59e7efa6c6255b80fa57c746fc1b0fd54dcd6d1c00d04a4e6c4d841f57754038", func := "example.com/acephal/acephal/zzlaws_root_b1.FnMatchingIsLeastCountWithACorrectReplica", spec := "fnMatchingIsLeastCountWithACorrectReplica", make := .lifted ["publicsums"], apart := false }
def FnMatchingIsLeastCountWithACorrectReplicaSaid : Prop := fnMatchingIsLeastCountWithACorrectReplicaRow.holds Trym.pinned (OpenSpec.ofChange fnMatchingIsLeastCountWithACorrectReplicaSpec)

/-- ITS FALSE NEIGHBOUR: 'it returns false'. Refute it at one input. -/
def fnMatchingIsLeastCountWithACorrectReplicaWrong : ChangeSpec := { name := "fnMatchingIsLeastCountWithACorrectReplica", fn := fun _ => fun
  | [d1, d2] => { results := [.lit (.bool false)], args := [d1, d2] }
  | _ => none }
def FnMatchingIsLeastCountWithACorrectReplicaWrongFalsely : Prop := fnMatchingIsLeastCountWithACorrectReplicaRow.holds Trym.pinned (OpenSpec.ofChange fnMatchingIsLeastCountWithACorrectReplicaWrong)

end Rows
end Go.Proofs.Qxb6612364aMods

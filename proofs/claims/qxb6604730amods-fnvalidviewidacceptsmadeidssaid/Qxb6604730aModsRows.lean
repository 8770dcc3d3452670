/-
  No cell of these rows narrows 'for every input' (looked for: loops, veiled, ifaces, maps, wideKeys, modest, calm, conditions, laid).
  DERIVED. THE GIVEN ROWS OF THIS SEAT. 2 by the template 'for every input the law returns true; each argument reads behind the call as it read before'; 0 by the template 'total and deterministic' (their statements: Qxb6604730aModsTotals.lean).
  GIVEN WITH THE SEED: the statements are not yours to turn. If you find one false, say at which input.
  Laid BY PROGRAM, IN A SANDBOX (cutbox-rows.mjs): the forced cells as the released guide's own fill.sh prints them over the translation 4024745bfe8cd43f… (all of the seat's roots in one cut). By AI agents, Wed Nov 11 2026. No macro, syntax, notation, axiom, sorry.
-/
import Derived.Test.Qxb6604730aModsChecked
import GoSem.Claim
import GoSem.ClaimJoined
import GoSem.ClaimMapViews
import Derived.JoinedTies
import Derived.KernelRfl
namespace Go.Proofs.Qxb6604730aMods
/- THE CELL 'sum', in the pinned program and in every row, IS THE sha256 OF THE DUMP (.gsa) THAT Qxb6604730aModsProg.lean LOADS. Nothing in Lean hashes anything: it is a label: what it is worth is what the hold of that sum in a sandbox is worth. -/
noncomputable def Trym.pinned : Pinned := { name := "qxb6604730amods", sum := "4024745bfe8cd43f960936f86b640efb83fe391dbc2877c38ae836b7fff5b092", checked := Trym.checked }
namespace Rows
def none {H : Type} : Left H := { results := [], args := [] }

/-- 'zzlaws_internal_group_b1.FnMsgForgettingKeepsNumbers': WHATEVER THE INPUT: true; the input reads as it did. -/
def fnMsgForgettingKeepsNumbersSpec : ChangeSpec := { name := "fnMsgForgettingKeepsNumbers", fn := fun _ => fun
  | [d1, d2, d3] => { results := [.lit (.bool true)], args := [d1, d2, d3] }
  | _ => none }
def fnMsgForgettingKeepsNumbersRow : OpenClaim := { program := "qxb6604730amods", sum := "4024745bfe8cd43f960936f86b640efb83fe391dbc2877c38ae836b7fff5b092", func := "example.com/skein/skein/zzlaws_internal_group_b1.FnMsgForgettingKeepsNumbers", spec := "fnMsgForgettingKeepsNumbers", make := .lifted ["publicsums"], apart := false }
def FnMsgForgettingKeepsNumbersSaid : Prop := fnMsgForgettingKeepsNumbersRow.holds Trym.pinned (OpenSpec.ofChange fnMsgForgettingKeepsNumbersSpec)

/-- ITS FALSE NEIGHBOUR: 'it returns false'. Refute it at one input. -/
def fnMsgForgettingKeepsNumbersWrong : ChangeSpec := { name := "fnMsgForgettingKeepsNumbers", fn := fun _ => fun
  | [d1, d2, d3] => { results := [.lit (.bool false)], args := [d1, d2, d3] }
  | _ => none }
def FnMsgForgettingKeepsNumbersWrongFalsely : Prop := fnMsgForgettingKeepsNumbersRow.holds Trym.pinned (OpenSpec.ofChange fnMsgForgettingKeepsNumbersWrong)

/-- 'zzlaws_internal_group_b1.FnValidViewIDAcceptsMadeIDs': WHATEVER THE INPUT: true; the input reads as it did. -/
def fnValidViewIDAcceptsMadeIDsSpec : ChangeSpec := { name := "fnValidViewIDAcceptsMadeIDs", fn := fun _ => fun
  | [d1, d2, d3] => { results := [.lit (.bool true)], args := [d1, d2, d3] }
  | _ => none }
def fnValidViewIDAcceptsMadeIDsRow : OpenClaim := { program := "qxb6604730amods", sum := "4024745bfe8cd43f960936f86b640efb83fe391dbc2877c38ae836b7fff5b092", func := "example.com/skein/skein/zzlaws_internal_group_b1.FnValidViewIDAcceptsMadeIDs", spec := "fnValidViewIDAcceptsMadeIDs", make := .lifted ["publicsums"], apart := false }
def FnValidViewIDAcceptsMadeIDsSaid : Prop := fnValidViewIDAcceptsMadeIDsRow.holds Trym.pinned (OpenSpec.ofChange fnValidViewIDAcceptsMadeIDsSpec)

/-- ITS FALSE NEIGHBOUR: 'it returns false'. Refute it at one input. -/
def fnValidViewIDAcceptsMadeIDsWrong : ChangeSpec := { name := "fnValidViewIDAcceptsMadeIDs", fn := fun _ => fun
  | [d1, d2, d3] => { results := [.lit (.bool false)], args := [d1, d2, d3] }
  | _ => none }
def FnValidViewIDAcceptsMadeIDsWrongFalsely : Prop := fnValidViewIDAcceptsMadeIDsRow.holds Trym.pinned (OpenSpec.ofChange fnValidViewIDAcceptsMadeIDsWrong)

end Rows
end Go.Proofs.Qxb6604730aMods

/-
  No cell of these rows narrows 'for every input' (looked for: loops, veiled, ifaces, maps, wideKeys, modest, calm, conditions, laid).
  DERIVED. THE GIVEN ROWS OF THIS SEAT. 2 by the template 'for every input the law returns true; each argument reads behind the call as it read before'; 0 by the template 'total and deterministic' (their statements: Qxb6605277aModsTotals.lean).
  GIVEN WITH THE SEED: the statements are not yours to turn. If you find one false, say at which input.
  Laid BY PROGRAM, IN A SANDBOX (cutbox-rows.mjs): the forced cells as the released guide's own fill.sh prints them over the translation d8b1ea7fe55573c9… (all of the seat's roots in one cut). By AI agents, Wed Nov 11 2026. No macro, syntax, notation, axiom, sorry.
-/
import Derived.Test.Qxb6605277aModsChecked
import GoSem.Claim
import GoSem.ClaimJoined
import GoSem.ClaimMapViews
import Derived.JoinedTies
import Derived.KernelRfl
namespace Go.Proofs.Qxb6605277aMods
/- THE CELL 'sum', in the pinned program and in every row, IS THE sha256 OF THE DUMP (.gsa) THAT Qxb6605277aModsProg.lean LOADS. Nothing in Lean hashes anything: it is a label: what it is worth is what the hold of that sum in a sandbox is worth. -/
noncomputable def Trym.pinned : Pinned := { name := "qxb6605277amods", sum := "d8b1ea7fe55573c9cd241a9db1bd835ba1d7bd3f32a03cfdad7986d26e5062f8", checked := Trym.checked }
namespace Rows
def none {H : Type} : Left H := { results := [], args := [] }

/-- 'zzlaws_internal_plan_b1.FnAfterBlankLinesExact': WHATEVER THE INPUT: true; the input reads as it did. -/
def fnAfterBlankLinesExactSpec : ChangeSpec := { name := "fnAfterBlankLinesExact", fn := fun _ => fun
  | [d1, d2] => { results := [.lit (.bool true)], args := [d1, d2] }
  | _ => none }
def fnAfterBlankLinesExactRow : OpenClaim := { program := "qxb6605277amods", sum := "d8b1ea7fe55573c9cd241a9db1bd835ba1d7bd3f32a03cfdad7986d26e5062f8", func := "example.com/cohold/cohold/zzlaws_internal_plan_b1.FnAfterBlankLinesExact", spec := "fnAfterBlankLinesExact", make := .lifted ["publicsums"], apart := false }
def FnAfterBlankLinesExactSaid : Prop := fnAfterBlankLinesExactRow.holds Trym.pinned (OpenSpec.ofChange fnAfterBlankLinesExactSpec)

/-- ITS FALSE NEIGHBOUR: 'it returns false'. Refute it at one input. -/
def fnAfterBlankLinesExactWrong : ChangeSpec := { name := "fnAfterBlankLinesExact", fn := fun _ => fun
  | [d1, d2] => { results := [.lit (.bool false)], args := [d1, d2] }
  | _ => none }
def FnAfterBlankLinesExactWrongFalsely : Prop := fnAfterBlankLinesExactRow.holds Trym.pinned (OpenSpec.ofChange fnAfterBlankLinesExactWrong)

/-- 'zzlaws_internal_plan_b1.FnAfterBlankLinesSettles': WHATEVER THE INPUT: true; the input reads as it did. -/
def fnAfterBlankLinesSettlesSpec : ChangeSpec := { name := "fnAfterBlankLinesSettles", fn := fun _ => fun
  | [d1, d2] => { results := [.lit (.bool true)], args := [d1, d2] }
  | _ => none }
def fnAfterBlankLinesSettlesRow : OpenClaim := { program := "qxb6605277amods", sum := "d8b1ea7fe55573c9cd241a9db1bd835ba1d7bd3f32a03cfdad7986d26e5062f8", func := "example.com/cohold/cohold/zzlaws_internal_plan_b1.FnAfterBlankLinesSettles", spec := "fnAfterBlankLinesSettles", make := .lifted ["publicsums"], apart := false }
def FnAfterBlankLinesSettlesSaid : Prop := fnAfterBlankLinesSettlesRow.holds Trym.pinned (OpenSpec.ofChange fnAfterBlankLinesSettlesSpec)

/-- ITS FALSE NEIGHBOUR: 'it returns false'. Refute it at one input. -/
def fnAfterBlankLinesSettlesWrong : ChangeSpec := { name := "fnAfterBlankLinesSettles", fn := fun _ => fun
  | [d1, d2] => { results := [.lit (.bool false)], args := [d1, d2] }
  | _ => none }
def FnAfterBlankLinesSettlesWrongFalsely : Prop := fnAfterBlankLinesSettlesRow.holds Trym.pinned (OpenSpec.ofChange fnAfterBlankLinesSettlesWrong)

end Rows
end Go.Proofs.Qxb6605277aMods

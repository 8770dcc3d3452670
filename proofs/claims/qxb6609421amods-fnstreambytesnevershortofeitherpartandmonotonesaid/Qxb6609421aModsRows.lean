/-
  No cell of these rows narrows 'for every input' (looked for: loops, veiled, ifaces, maps, wideKeys, modest, calm, conditions, laid).
  DERIVED. THE GIVEN ROWS OF THIS SEAT. 3 by the template 'for every input the law returns true; each argument reads behind the call as it read before'; 0 by the template 'total and deterministic' (their statements: Qxb6609421aModsTotals.lean).
  GIVEN WITH THE SEED: the statements are not yours to turn. If you find one false, say at which input.
  Laid BY PROGRAM, IN A SANDBOX (cutbox-rows.mjs): the forced cells as the released guide's own fill.sh prints them over the translation 7c516290222b1fab… (all of the seat's roots in one cut). By AI agents, Wed Nov 11 2026. No macro, syntax, notation, axiom, sorry.
-/
import Derived.Test.Qxb6609421aModsChecked
import GoSem.Claim
import GoSem.ClaimJoined
import GoSem.ClaimMapViews
import Derived.JoinedTies
import Derived.KernelRfl
namespace Go.Proofs.Qxb6609421aMods
/- THE CELL 'sum', in the pinned program and in every row, IS THE sha256 OF THE DUMP (.gsa) THAT Qxb6609421aModsProg.lean LOADS. Nothing in Lean hashes anything: it is a label: what it is worth is what the hold of that sum in a sandbox is worth. -/
noncomputable def Trym.pinned : Pinned := { name := "qxb6609421amods", sum := "7c516290222b1fabf3752c6393381807c946e8a711ef30fda7755595c7ea751e", checked := Trym.checked }
namespace Rows
def none {H : Type} : Left H := { results := [], args := [] }

/-- 'zzlaws_root_b1.FnStreamBytesIsTheExactByteCount': WHATEVER THE INPUT: true; the input reads as it did. -/
def fnStreamBytesIsTheExactByteCountSpec : ChangeSpec := { name := "fnStreamBytesIsTheExactByteCount", fn := fun _ => fun
  | [d1, d2] => { results := [.lit (.bool true)], args := [d1, d2] }
  | _ => none }
def fnStreamBytesIsTheExactByteCountRow : OpenClaim := { program := "qxb6609421amods", sum := "7c516290222b1fabf3752c6393381807c946e8a711ef30fda7755595c7ea751e", func := "example.com/vouchcast/vouchcast/zzlaws_root_b1.FnStreamBytesIsTheExactByteCount", spec := "fnStreamBytesIsTheExactByteCount", make := .lifted ["publicsums"], apart := false }
def FnStreamBytesIsTheExactByteCountSaid : Prop := fnStreamBytesIsTheExactByteCountRow.holds Trym.pinned (OpenSpec.ofChange fnStreamBytesIsTheExactByteCountSpec)

/-- ITS FALSE NEIGHBOUR: 'it returns false'. Refute it at one input. -/
def fnStreamBytesIsTheExactByteCountWrong : ChangeSpec := { name := "fnStreamBytesIsTheExactByteCount", fn := fun _ => fun
  | [d1, d2] => { results := [.lit (.bool false)], args := [d1, d2] }
  | _ => none }
def FnStreamBytesIsTheExactByteCountWrongFalsely : Prop := fnStreamBytesIsTheExactByteCountRow.holds Trym.pinned (OpenSpec.ofChange fnStreamBytesIsTheExactByteCountWrong)

/-- 'zzlaws_root_b1.FnStreamBytesNeverShortOfEitherPartAndMonotone': WHATEVER THE INPUT: true; the input reads as it did. -/
def fnStreamBytesNeverShortOfEitherPartAndMonotoneSpec : ChangeSpec := { name := "fnStreamBytesNeverShortOfEitherPartAndMonotone", fn := fun _ => fun
  | [d1, d2] => { results := [.lit (.bool true)], args := [d1, d2] }
  | _ => none }
def fnStreamBytesNeverShortOfEitherPartAndMonotoneRow : OpenClaim := { program := "qxb6609421amods", sum := "7c516290222b1fabf3752c6393381807c946e8a711ef30fda7755595c7ea751e", func := "example.com/vouchcast/vouchcast/zzlaws_root_b1.FnStreamBytesNeverShortOfEitherPartAndMonotone", spec := "fnStreamBytesNeverShortOfEitherPartAndMonotone", make := .lifted ["publicsums"], apart := false }
def FnStreamBytesNeverShortOfEitherPartAndMonotoneSaid : Prop := fnStreamBytesNeverShortOfEitherPartAndMonotoneRow.holds Trym.pinned (OpenSpec.ofChange fnStreamBytesNeverShortOfEitherPartAndMonotoneSpec)

/-- ITS FALSE NEIGHBOUR: 'it returns false'. Refute it at one input. -/
def fnStreamBytesNeverShortOfEitherPartAndMonotoneWrong : ChangeSpec := { name := "fnStreamBytesNeverShortOfEitherPartAndMonotone", fn := fun _ => fun
  | [d1, d2] => { results := [.lit (.bool false)], args := [d1, d2] }
  | _ => none }
def FnStreamBytesNeverShortOfEitherPartAndMonotoneWrongFalsely : Prop := fnStreamBytesNeverShortOfEitherPartAndMonotoneRow.holds Trym.pinned (OpenSpec.ofChange fnStreamBytesNeverShortOfEitherPartAndMonotoneWrong)

/-- 'zzlaws_root_b1.FnHearCountsTellersPerInstance': WHATEVER THE INPUT: true; the input reads as it did. -/
def fnHearCountsTellersPerInstanceSpec : ChangeSpec := { name := "fnHearCountsTellersPerInstance", fn := fun _ => fun
  | [d1, d2, d3, d4, d5] => { results := [.lit (.bool true)], args := [d1, d2, d3, d4, d5] }
  | _ => none }
def fnHearCountsTellersPerInstanceRow : OpenClaim := { program := "qxb6609421amods", sum := "7c516290222b1fabf3752c6393381807c946e8a711ef30fda7755595c7ea751e", func := "example.com/vouchcast/vouchcast/zzlaws_root_b1.FnHearCountsTellersPerInstance", spec := "fnHearCountsTellersPerInstance", named := ["encoding/binary.BigEndian"], make := .lifted ["publicsums"], apart := false }
def FnHearCountsTellersPerInstanceSaid : Prop := fnHearCountsTellersPerInstanceRow.holds Trym.pinned (OpenSpec.ofChange fnHearCountsTellersPerInstanceSpec)

/-- ITS FALSE NEIGHBOUR: 'it returns false'. Refute it at one input. -/
def fnHearCountsTellersPerInstanceWrong : ChangeSpec := { name := "fnHearCountsTellersPerInstance", fn := fun _ => fun
  | [d1, d2, d3, d4, d5] => { results := [.lit (.bool false)], args := [d1, d2, d3, d4, d5] }
  | _ => none }
def FnHearCountsTellersPerInstanceWrongFalsely : Prop := fnHearCountsTellersPerInstanceRow.holds Trym.pinned (OpenSpec.ofChange fnHearCountsTellersPerInstanceWrong)

end Rows
end Go.Proofs.Qxb6609421aMods

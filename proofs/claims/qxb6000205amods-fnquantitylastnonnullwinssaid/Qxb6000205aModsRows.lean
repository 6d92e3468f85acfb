/-
  No cell of these rows narrows 'for every input' (looked for: loops, veiled, ifaces, maps, wideKeys, modest, calm, conditions, laid).
  DERIVED. THE GIVEN ROWS OF THIS SEAT. 4 by the template 'for every input the law returns true; each argument reads behind the call as it read before'; 0 by the template 'total and deterministic' (their statements: Qxb6000205aModsTotals.lean).
  GIVEN WITH THE SEED: the statements are not yours to turn. If you find one false, say at which input.
  Laid BY PROGRAM, IN A SANDBOX (cutbox-rows.mjs): the forced cells as the released guide's own fill.sh prints them over the translation ebe22abfc7f33dee… (all of the seat's roots in one cut). By AI agents, Wed Nov 11 2026. No macro, syntax, notation, axiom, sorry.
-/
import Derived.Test.Qxb6000205aModsChecked
import GoSem.Claim
import GoSem.ClaimJoined
import GoSem.ClaimMapViews
import Derived.JoinedTies
import Derived.KernelRfl
namespace Go.Proofs.Qxb6000205aMods
/- THE CELL 'sum', in the pinned program and in every row, IS THE sha256 OF THE DUMP (.gsa) THAT Qxb6000205aModsProg.lean LOADS. Nothing in Lean hashes anything: it is a label: what it is worth is what the hold of that sum in a sandbox is worth. -/
noncomputable def Trym.pinned : Pinned := { name := "qxb6000205amods", sum := "ebe22abfc7f33dee1ce60325640ca1cc9d594af91036548d5cf5ea1406100d21", checked := Trym.checked }
namespace Rows
def none {H : Type} : Left H := { results := [], args := [] }

/-- 'zzlaws_internal_api_v1alpha1_e1.FnQuantityRoundTripExact': WHATEVER THE INPUT: true; the input reads as it did. -/
def fnQuantityRoundTripExactSpec : ChangeSpec := { name := "fnQuantityRoundTripExact", fn := fun _ => fun
  | [d] => { results := [.lit (.bool true)], args := [d] }
  | _ => none }
def fnQuantityRoundTripExactRow : OpenClaim := { program := "qxb6000205amods", sum := "ebe22abfc7f33dee1ce60325640ca1cc9d594af91036548d5cf5ea1406100d21", func := "example.com/cradle/cradle/zzlaws_internal_api_v1alpha1_e1.FnQuantityRoundTripExact", spec := "fnQuantityRoundTripExact", make := .lifted ["publicsums"], apart := false }
def FnQuantityRoundTripExactSaid : Prop := fnQuantityRoundTripExactRow.holds Trym.pinned (OpenSpec.ofChange fnQuantityRoundTripExactSpec)

/-- ITS FALSE NEIGHBOUR: 'it returns false'. Refute it at one input. -/
def fnQuantityRoundTripExactWrong : ChangeSpec := { name := "fnQuantityRoundTripExact", fn := fun _ => fun
  | [d] => { results := [.lit (.bool false)], args := [d] }
  | _ => none }
def FnQuantityRoundTripExactWrongFalsely : Prop := fnQuantityRoundTripExactRow.holds Trym.pinned (OpenSpec.ofChange fnQuantityRoundTripExactWrong)

/-- 'zzlaws_internal_api_v1alpha1_e1.FnQuantityLastNonNullWins': WHATEVER THE INPUT: true; the input reads as it did. -/
def fnQuantityLastNonNullWinsSpec : ChangeSpec := { name := "fnQuantityLastNonNullWins", fn := fun _ => fun
  | [d] => { results := [.lit (.bool true)], args := [d] }
  | _ => none }
def fnQuantityLastNonNullWinsRow : OpenClaim := { program := "qxb6000205amods", sum := "ebe22abfc7f33dee1ce60325640ca1cc9d594af91036548d5cf5ea1406100d21", func := "example.com/cradle/cradle/zzlaws_internal_api_v1alpha1_e1.FnQuantityLastNonNullWins", spec := "fnQuantityLastNonNullWins", make := .lifted ["publicsums"], apart := false }
def FnQuantityLastNonNullWinsSaid : Prop := fnQuantityLastNonNullWinsRow.holds Trym.pinned (OpenSpec.ofChange fnQuantityLastNonNullWinsSpec)

/-- ITS FALSE NEIGHBOUR: 'it returns false'. Refute it at one input. -/
def fnQuantityLastNonNullWinsWrong : ChangeSpec := { name := "fnQuantityLastNonNullWins", fn := fun _ => fun
  | [d] => { results := [.lit (.bool false)], args := [d] }
  | _ => none }
def FnQuantityLastNonNullWinsWrongFalsely : Prop := fnQuantityLastNonNullWinsRow.holds Trym.pinned (OpenSpec.ofChange fnQuantityLastNonNullWinsWrong)

/-- 'zzlaws_internal_api_v1alpha1_e1.FnQuantityKeepsOwnCopy': WHATEVER THE INPUT: true; the input reads as it did. -/
def fnQuantityKeepsOwnCopySpec : ChangeSpec := { name := "fnQuantityKeepsOwnCopy", fn := fun _ => fun
  | [d] => { results := [.lit (.bool true)], args := [d] }
  | _ => none }
def fnQuantityKeepsOwnCopyRow : OpenClaim := { program := "qxb6000205amods", sum := "ebe22abfc7f33dee1ce60325640ca1cc9d594af91036548d5cf5ea1406100d21", func := "example.com/cradle/cradle/zzlaws_internal_api_v1alpha1_e1.FnQuantityKeepsOwnCopy", spec := "fnQuantityKeepsOwnCopy", make := .lifted ["publicsums"], apart := false }
def FnQuantityKeepsOwnCopySaid : Prop := fnQuantityKeepsOwnCopyRow.holds Trym.pinned (OpenSpec.ofChange fnQuantityKeepsOwnCopySpec)

/-- ITS FALSE NEIGHBOUR: 'it returns false'. Refute it at one input. -/
def fnQuantityKeepsOwnCopyWrong : ChangeSpec := { name := "fnQuantityKeepsOwnCopy", fn := fun _ => fun
  | [d] => { results := [.lit (.bool false)], args := [d] }
  | _ => none }
def FnQuantityKeepsOwnCopyWrongFalsely : Prop := fnQuantityKeepsOwnCopyRow.holds Trym.pinned (OpenSpec.ofChange fnQuantityKeepsOwnCopyWrong)

/-- 'zzlaws_internal_api_v1alpha1_e1.FnQuantityMarshalFixedPoint': WHATEVER THE INPUT: true; the input reads as it did. -/
def fnQuantityMarshalFixedPointSpec : ChangeSpec := { name := "fnQuantityMarshalFixedPoint", fn := fun _ => fun
  | [d] => { results := [.lit (.bool true)], args := [d] }
  | _ => none }
def fnQuantityMarshalFixedPointRow : OpenClaim := { program := "qxb6000205amods", sum := "ebe22abfc7f33dee1ce60325640ca1cc9d594af91036548d5cf5ea1406100d21", func := "example.com/cradle/cradle/zzlaws_internal_api_v1alpha1_e1.FnQuantityMarshalFixedPoint", spec := "fnQuantityMarshalFixedPoint", make := .lifted ["publicsums"], apart := false }
def FnQuantityMarshalFixedPointSaid : Prop := fnQuantityMarshalFixedPointRow.holds Trym.pinned (OpenSpec.ofChange fnQuantityMarshalFixedPointSpec)

/-- ITS FALSE NEIGHBOUR: 'it returns false'. Refute it at one input. -/
def fnQuantityMarshalFixedPointWrong : ChangeSpec := { name := "fnQuantityMarshalFixedPoint", fn := fun _ => fun
  | [d] => { results := [.lit (.bool false)], args := [d] }
  | _ => none }
def FnQuantityMarshalFixedPointWrongFalsely : Prop := fnQuantityMarshalFixedPointRow.holds Trym.pinned (OpenSpec.ofChange fnQuantityMarshalFixedPointWrong)

end Rows
end Go.Proofs.Qxb6000205aMods

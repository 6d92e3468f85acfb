/-
  No cell of these rows narrows 'for every input' (looked for: loops, veiled, ifaces, maps, wideKeys, modest, calm, conditions, laid).
  DERIVED. THE GIVEN ROWS OF THIS SEAT. 6 by the template 'for every input the law returns true; each argument reads behind the call as it read before'; 0 by the template 'total and deterministic' (their statements: Qxb6000425aModsTotals.lean).
  GIVEN WITH THE SEED: the statements are not yours to turn. If you find one false, say at which input.
  Laid BY PROGRAM, IN A SANDBOX (cutbox-rows.mjs): the forced cells as the released guide's own fill.sh prints them over the translation ece13f81ae7216f5… (all of the seat's roots in one cut). By AI agents, Wed Nov 11 2026. No macro, syntax, notation, axiom, sorry.
-/
import Derived.Test.Qxb6000425aModsChecked
import GoSem.Claim
import GoSem.ClaimJoined
import GoSem.ClaimMapViews
import Derived.JoinedTies
import Derived.KernelRfl
namespace Go.Proofs.Qxb6000425aMods
/- THE CELL 'sum', in the pinned program and in every row, IS THE sha256 OF THE DUMP (.gsa) THAT Qxb6000425aModsProg.lean LOADS. Nothing in Lean hashes anything: it is a label: what it is worth is what the hold of that sum in a sandbox is worth. -/
noncomputable def Trym.pinned : Pinned := { name := "qxb6000425amods", sum := "ece13f81ae7216f564cd8832f62a21e409d14c88b42f8349ce4cafe69fa78ff4", checked := Trym.checked }
namespace Rows
def none {H : Type} : Left H := { results := [], args := [] }

/-- 'zzlaws_root_b1.FnCmpWordsMatchesBorrowModel': WHATEVER THE INPUT: true; the input reads as it did. -/
def fnCmpWordsMatchesBorrowModelSpec : ChangeSpec := { name := "fnCmpWordsMatchesBorrowModel", fn := fun _ => fun
  | [d1, d2] => { results := [.lit (.bool true)], args := [d1, d2] }
  | _ => none }
def fnCmpWordsMatchesBorrowModelRow : OpenClaim := { program := "qxb6000425amods", sum := "ece13f81ae7216f564cd8832f62a21e409d14c88b42f8349ce4cafe69fa78ff4", func := "example.com/tessera/tessera/zzlaws_root_b1.FnCmpWordsMatchesBorrowModel", spec := "fnCmpWordsMatchesBorrowModel", make := .lifted ["publicsums"], apart := false }
def FnCmpWordsMatchesBorrowModelSaid : Prop := fnCmpWordsMatchesBorrowModelRow.holds Trym.pinned (OpenSpec.ofChange fnCmpWordsMatchesBorrowModelSpec)

/-- ITS FALSE NEIGHBOUR: 'it returns false'. Refute it at one input. -/
def fnCmpWordsMatchesBorrowModelWrong : ChangeSpec := { name := "fnCmpWordsMatchesBorrowModel", fn := fun _ => fun
  | [d1, d2] => { results := [.lit (.bool false)], args := [d1, d2] }
  | _ => none }
def FnCmpWordsMatchesBorrowModelWrongFalsely : Prop := fnCmpWordsMatchesBorrowModelRow.holds Trym.pinned (OpenSpec.ofChange fnCmpWordsMatchesBorrowModelWrong)

/-- 'zzlaws_root_b1.FnCmpWordsAntisymmetricAndReflexive': WHATEVER THE INPUT: true; the input reads as it did. -/
def fnCmpWordsAntisymmetricAndReflexiveSpec : ChangeSpec := { name := "fnCmpWordsAntisymmetricAndReflexive", fn := fun _ => fun
  | [d1, d2] => { results := [.lit (.bool true)], args := [d1, d2] }
  | _ => none }
def fnCmpWordsAntisymmetricAndReflexiveRow : OpenClaim := { program := "qxb6000425amods", sum := "ece13f81ae7216f564cd8832f62a21e409d14c88b42f8349ce4cafe69fa78ff4", func := "example.com/tessera/tessera/zzlaws_root_b1.FnCmpWordsAntisymmetricAndReflexive", spec := "fnCmpWordsAntisymmetricAndReflexive", make := .lifted ["publicsums"], apart := false }
def FnCmpWordsAntisymmetricAndReflexiveSaid : Prop := fnCmpWordsAntisymmetricAndReflexiveRow.holds Trym.pinned (OpenSpec.ofChange fnCmpWordsAntisymmetricAndReflexiveSpec)

/-- ITS FALSE NEIGHBOUR: 'it returns false'. Refute it at one input. -/
def fnCmpWordsAntisymmetricAndReflexiveWrong : ChangeSpec := { name := "fnCmpWordsAntisymmetricAndReflexive", fn := fun _ => fun
  | [d1, d2] => { results := [.lit (.bool false)], args := [d1, d2] }
  | _ => none }
def FnCmpWordsAntisymmetricAndReflexiveWrongFalsely : Prop := fnCmpWordsAntisymmetricAndReflexiveRow.holds Trym.pinned (OpenSpec.ofChange fnCmpWordsAntisymmetricAndReflexiveWrong)

/-- 'zzlaws_root_b1.FnCmpWordsTransitive': WHATEVER THE INPUT: true; the input reads as it did. -/
def fnCmpWordsTransitiveSpec : ChangeSpec := { name := "fnCmpWordsTransitive", fn := fun _ => fun
  | [d1, d2, d3] => { results := [.lit (.bool true)], args := [d1, d2, d3] }
  | _ => none }
def fnCmpWordsTransitiveRow : OpenClaim := { program := "qxb6000425amods", sum := "ece13f81ae7216f564cd8832f62a21e409d14c88b42f8349ce4cafe69fa78ff4", func := "example.com/tessera/tessera/zzlaws_root_b1.FnCmpWordsTransitive", spec := "fnCmpWordsTransitive", make := .lifted ["publicsums"], apart := false }
def FnCmpWordsTransitiveSaid : Prop := fnCmpWordsTransitiveRow.holds Trym.pinned (OpenSpec.ofChange fnCmpWordsTransitiveSpec)

/-- ITS FALSE NEIGHBOUR: 'it returns false'. Refute it at one input. -/
def fnCmpWordsTransitiveWrong : ChangeSpec := { name := "fnCmpWordsTransitive", fn := fun _ => fun
  | [d1, d2, d3] => { results := [.lit (.bool false)], args := [d1, d2, d3] }
  | _ => none }
def FnCmpWordsTransitiveWrongFalsely : Prop := fnCmpWordsTransitiveRow.holds Trym.pinned (OpenSpec.ofChange fnCmpWordsTransitiveWrong)

/-- 'zzlaws_root_b1.FnFollowerIsFirstPointAtOrAbove': WHATEVER THE INPUT: true; the input reads as it did. -/
def fnFollowerIsFirstPointAtOrAboveSpec : ChangeSpec := { name := "fnFollowerIsFirstPointAtOrAbove", fn := fun _ => fun
  | [d1, d2, d3] => { results := [.lit (.bool true)], args := [d1, d2, d3] }
  | _ => none }
def fnFollowerIsFirstPointAtOrAboveRow : OpenClaim := { program := "qxb6000425amods", sum := "ece13f81ae7216f564cd8832f62a21e409d14c88b42f8349ce4cafe69fa78ff4", func := "example.com/tessera/tessera/zzlaws_root_b1.FnFollowerIsFirstPointAtOrAbove", spec := "fnFollowerIsFirstPointAtOrAbove", make := .lifted ["publicsums"], apart := false }
def FnFollowerIsFirstPointAtOrAboveSaid : Prop := fnFollowerIsFirstPointAtOrAboveRow.holds Trym.pinned (OpenSpec.ofChange fnFollowerIsFirstPointAtOrAboveSpec)

/-- ITS FALSE NEIGHBOUR: 'it returns false'. Refute it at one input. -/
def fnFollowerIsFirstPointAtOrAboveWrong : ChangeSpec := { name := "fnFollowerIsFirstPointAtOrAbove", fn := fun _ => fun
  | [d1, d2, d3] => { results := [.lit (.bool false)], args := [d1, d2, d3] }
  | _ => none }
def FnFollowerIsFirstPointAtOrAboveWrongFalsely : Prop := fnFollowerIsFirstPointAtOrAboveRow.holds Trym.pinned (OpenSpec.ofChange fnFollowerIsFirstPointAtOrAboveWrong)

/-- 'zzlaws_root_b1.FnFollowerMonotoneUntilWrap': WHATEVER THE INPUT: true; the input reads as it did. -/
def fnFollowerMonotoneUntilWrapSpec : ChangeSpec := { name := "fnFollowerMonotoneUntilWrap", fn := fun _ => fun
  | [d1, d2, d3, d4] => { results := [.lit (.bool true)], args := [d1, d2, d3, d4] }
  | _ => none }
def fnFollowerMonotoneUntilWrapRow : OpenClaim := { program := "qxb6000425amods", sum := "ece13f81ae7216f564cd8832f62a21e409d14c88b42f8349ce4cafe69fa78ff4", func := "example.com/tessera/tessera/zzlaws_root_b1.FnFollowerMonotoneUntilWrap", spec := "fnFollowerMonotoneUntilWrap", make := .lifted ["publicsums"], apart := false }
def FnFollowerMonotoneUntilWrapSaid : Prop := fnFollowerMonotoneUntilWrapRow.holds Trym.pinned (OpenSpec.ofChange fnFollowerMonotoneUntilWrapSpec)

/-- ITS FALSE NEIGHBOUR: 'it returns false'. Refute it at one input. -/
def fnFollowerMonotoneUntilWrapWrong : ChangeSpec := { name := "fnFollowerMonotoneUntilWrap", fn := fun _ => fun
  | [d1, d2, d3, d4] => { results := [.lit (.bool false)], args := [d1, d2, d3, d4] }
  | _ => none }
def FnFollowerMonotoneUntilWrapWrongFalsely : Prop := fnFollowerMonotoneUntilWrapRow.holds Trym.pinned (OpenSpec.ofChange fnFollowerMonotoneUntilWrapWrong)

/-- 'zzlaws_root_b1.FnFollowerFixedOnItsPoint': WHATEVER THE INPUT: true; the input reads as it did. -/
def fnFollowerFixedOnItsPointSpec : ChangeSpec := { name := "fnFollowerFixedOnItsPoint", fn := fun _ => fun
  | [d1, d2, d3] => { results := [.lit (.bool true)], args := [d1, d2, d3] }
  | _ => none }
def fnFollowerFixedOnItsPointRow : OpenClaim := { program := "qxb6000425amods", sum := "ece13f81ae7216f564cd8832f62a21e409d14c88b42f8349ce4cafe69fa78ff4", func := "example.com/tessera/tessera/zzlaws_root_b1.FnFollowerFixedOnItsPoint", spec := "fnFollowerFixedOnItsPoint", make := .lifted ["publicsums"], apart := false }
def FnFollowerFixedOnItsPointSaid : Prop := fnFollowerFixedOnItsPointRow.holds Trym.pinned (OpenSpec.ofChange fnFollowerFixedOnItsPointSpec)

/-- ITS FALSE NEIGHBOUR: 'it returns false'. Refute it at one input. -/
def fnFollowerFixedOnItsPointWrong : ChangeSpec := { name := "fnFollowerFixedOnItsPoint", fn := fun _ => fun
  | [d1, d2, d3] => { results := [.lit (.bool false)], args := [d1, d2, d3] }
  | _ => none }
def FnFollowerFixedOnItsPointWrongFalsely : Prop := fnFollowerFixedOnItsPointRow.holds Trym.pinned (OpenSpec.ofChange fnFollowerFixedOnItsPointWrong)

end Rows
end Go.Proofs.Qxb6000425aMods

/-
  No cell of these rows narrows 'for every input' (looked for: loops, veiled, ifaces, maps, wideKeys, modest, calm, conditions, laid).
  DERIVED. THE GIVEN ROWS OF THIS SEAT. 3 by the template 'for every input the law returns true; each argument reads behind the call as it read before'; 0 by the template 'total and deterministic' (their statements: Qxb6602777aModsTotals.lean).
  GIVEN WITH THE SEED: the statements are not yours to turn. If you find one false, say at which input.
  Laid BY PROGRAM, IN A SANDBOX (cutbox-rows.mjs): the forced cells as the released guide's own fill.sh prints them over the translation 81350d15a1abdb03… (all of the seat's roots in one cut). By AI agents, Wed Nov 11 2026. No macro, syntax, notation, axiom, sorry.
-/
import Derived.Test.Qxb6602777aModsChecked
import GoSem.Claim
import GoSem.ClaimJoined
import GoSem.ClaimMapViews
import Derived.JoinedTies
import Derived.KernelRfl
namespace Go.Proofs.Qxb6602777aMods
/- THE CELL 'sum', in the pinned program and in every row, IS THE sha256 OF THE DUMP (.gsa) THAT Qxb6602777aModsProg.lean LOADS. Nothing in Lean hashes anything: it is a label: what it is worth is what the hold of that sum in a sandbox is worth. -/
noncomputable def Trym.pinned : Pinned := { name := "qxb6602777amods", sum := "81350d15a1abdb03b626b1d2c3c6b4f341188dd2fcb0efd640bdaf94f2562fe4", checked := Trym.checked }
namespace Rows
def none {H : Type} : Left H := { results := [], args := [] }

/-- 'zzlaws_store_b1.FnRangeLimitPositiveAndStable': WHATEVER THE INPUT: true; the input reads as it did. -/
def fnRangeLimitPositiveAndStableSpec : ChangeSpec := { name := "fnRangeLimitPositiveAndStable", fn := fun _ => fun
  | [d1, d2, d3] => { results := [.lit (.bool true)], args := [d1, d2, d3] }
  | _ => none }
def fnRangeLimitPositiveAndStableRow : OpenClaim := { program := "qxb6602777amods", sum := "81350d15a1abdb03b626b1d2c3c6b4f341188dd2fcb0efd640bdaf94f2562fe4", func := "example.com/nightbell/nightbell/zzlaws_store_b1.FnRangeLimitPositiveAndStable", spec := "fnRangeLimitPositiveAndStable", make := .lifted ["publicsums"], apart := false }
def FnRangeLimitPositiveAndStableSaid : Prop := fnRangeLimitPositiveAndStableRow.holds Trym.pinned (OpenSpec.ofChange fnRangeLimitPositiveAndStableSpec)

/-- ITS FALSE NEIGHBOUR: 'it returns false'. Refute it at one input. -/
def fnRangeLimitPositiveAndStableWrong : ChangeSpec := { name := "fnRangeLimitPositiveAndStable", fn := fun _ => fun
  | [d1, d2, d3] => { results := [.lit (.bool false)], args := [d1, d2, d3] }
  | _ => none }
def FnRangeLimitPositiveAndStableWrongFalsely : Prop := fnRangeLimitPositiveAndStableRow.holds Trym.pinned (OpenSpec.ofChange fnRangeLimitPositiveAndStableWrong)

/-- 'zzlaws_store_b1.FnIncidentConditionChoosesExactlyTheNamedStates': WHATEVER THE INPUT: true; the input reads as it did. -/
def fnIncidentConditionChoosesExactlyTheNamedStatesSpec : ChangeSpec := { name := "fnIncidentConditionChoosesExactlyTheNamedStates", fn := fun _ => fun
  | [d1, d2, d3] => { results := [.lit (.bool true)], args := [d1, d2, d3] }
  | _ => none }
def fnIncidentConditionChoosesExactlyTheNamedStatesRow : OpenClaim := { program := "qxb6602777amods", sum := "81350d15a1abdb03b626b1d2c3c6b4f341188dd2fcb0efd640bdaf94f2562fe4", func := "example.com/nightbell/nightbell/zzlaws_store_b1.FnIncidentConditionChoosesExactlyTheNamedStates", spec := "fnIncidentConditionChoosesExactlyTheNamedStates", inPlace := ["internal/abi.NoEscape", "internal/bytealg.MakeNoZero"], make := .lifted ["publicsums"], apart := false }
def FnIncidentConditionChoosesExactlyTheNamedStatesSaid : Prop := fnIncidentConditionChoosesExactlyTheNamedStatesRow.holds Trym.pinned (OpenSpec.ofChange fnIncidentConditionChoosesExactlyTheNamedStatesSpec)

/-- ITS FALSE NEIGHBOUR: 'it returns false'. Refute it at one input. -/
def fnIncidentConditionChoosesExactlyTheNamedStatesWrong : ChangeSpec := { name := "fnIncidentConditionChoosesExactlyTheNamedStates", fn := fun _ => fun
  | [d1, d2, d3] => { results := [.lit (.bool false)], args := [d1, d2, d3] }
  | _ => none }
def FnIncidentConditionChoosesExactlyTheNamedStatesWrongFalsely : Prop := fnIncidentConditionChoosesExactlyTheNamedStatesRow.holds Trym.pinned (OpenSpec.ofChange fnIncidentConditionChoosesExactlyTheNamedStatesWrong)

/-- 'zzlaws_store_b1.FnIncidentConditionOpenOnlySaysResolvedAtIsNull': WHATEVER THE INPUT: true; the input reads as it did. -/
def fnIncidentConditionOpenOnlySaysResolvedAtIsNullSpec : ChangeSpec := { name := "fnIncidentConditionOpenOnlySaysResolvedAtIsNull", fn := fun _ => fun
  | [d1, d2, d3] => { results := [.lit (.bool true)], args := [d1, d2, d3] }
  | _ => none }
def fnIncidentConditionOpenOnlySaysResolvedAtIsNullRow : OpenClaim := { program := "qxb6602777amods", sum := "81350d15a1abdb03b626b1d2c3c6b4f341188dd2fcb0efd640bdaf94f2562fe4", func := "example.com/nightbell/nightbell/zzlaws_store_b1.FnIncidentConditionOpenOnlySaysResolvedAtIsNull", spec := "fnIncidentConditionOpenOnlySaysResolvedAtIsNull", inPlace := ["internal/abi.NoEscape", "internal/bytealg.MakeNoZero"], make := .lifted ["publicsums"], apart := false }
def FnIncidentConditionOpenOnlySaysResolvedAtIsNullSaid : Prop := fnIncidentConditionOpenOnlySaysResolvedAtIsNullRow.holds Trym.pinned (OpenSpec.ofChange fnIncidentConditionOpenOnlySaysResolvedAtIsNullSpec)

/-- ITS FALSE NEIGHBOUR: 'it returns false'. Refute it at one input. -/
def fnIncidentConditionOpenOnlySaysResolvedAtIsNullWrong : ChangeSpec := { name := "fnIncidentConditionOpenOnlySaysResolvedAtIsNull", fn := fun _ => fun
  | [d1, d2, d3] => { results := [.lit (.bool false)], args := [d1, d2, d3] }
  | _ => none }
def FnIncidentConditionOpenOnlySaysResolvedAtIsNullWrongFalsely : Prop := fnIncidentConditionOpenOnlySaysResolvedAtIsNullRow.holds Trym.pinned (OpenSpec.ofChange fnIncidentConditionOpenOnlySaysResolvedAtIsNullWrong)

end Rows
end Go.Proofs.Qxb6602777aMods

/-
  No cell of these rows narrows 'for every input' (looked for: loops, veiled, ifaces, maps, wideKeys, modest, calm, conditions, laid).
  DERIVED. THE GIVEN ROWS OF THIS SEAT. 3 by the template 'for every input the law returns true; each argument reads behind the call as it read before'; 0 by the template 'total and deterministic' (their statements: Qxb6609140aTotals.lean).
  GIVEN WITH THE SEED: the statements are not yours to turn. If you find one false, say at which input.
  Laid BY PROGRAM, IN A SANDBOX (cutbox-rows.mjs): the forced cells as the released guide's own fill.sh prints them over the translation 93eb92762a13066f… (all of the seat's roots in one cut). By AI agents, Wed Nov 11 2026. No macro, syntax, notation, axiom, sorry.
-/
import Derived.Test.Qxb6609140aChecked
import GoSem.Claim
import GoSem.ClaimJoined
import GoSem.ClaimMapViews
import Derived.JoinedTies
import Derived.KernelRfl
namespace Go.Proofs.Qxb6609140a
/- THE CELL 'sum', in the pinned program and in every row, IS THE sha256 OF THE DUMP (.gsa) THAT Qxb6609140aProg.lean LOADS. Nothing in Lean hashes anything: it is a label: what it is worth is what the hold of that sum in a sandbox is worth. -/
noncomputable def Try.pinned : Pinned := { name := "qxb6609140a", sum := "93eb92762a13066f74c805892c583de41124ec382f24b30cc977be2490f6f182", checked := Try.checked }
namespace Rows
def none {H : Type} : Left H := { results := [], args := [] }

/-- 'zzlaws_config_b1.FnCommandDirOneStepBelowStateDir': WHATEVER THE INPUT: true; the input reads as it did. -/
def fnCommandDirOneStepBelowStateDirSpec : ChangeSpec := { name := "fnCommandDirOneStepBelowStateDir", fn := fun _ => fun
  | [d1, d2, d3, d4] => { results := [.lit (.bool true)], args := [d1, d2, d3, d4] }
  | _ => none }
def fnCommandDirOneStepBelowStateDirRow : OpenClaim := { program := "qxb6609140a", sum := "93eb92762a13066f74c805892c583de41124ec382f24b30cc977be2490f6f182", func := "example.com/helmward/helmward/zzlaws_config_b1.FnCommandDirOneStepBelowStateDir", spec := "fnCommandDirOneStepBelowStateDir", inPlace := ["internal/abi.NoEscape", "internal/bytealg.MakeNoZero", "internal/bytealg.IndexByteString"], apart := false }
def FnCommandDirOneStepBelowStateDirSaid : Prop := fnCommandDirOneStepBelowStateDirRow.holds Try.pinned (OpenSpec.ofChange fnCommandDirOneStepBelowStateDirSpec)

/-- ITS FALSE NEIGHBOUR: 'it returns false'. Refute it at one input. -/
def fnCommandDirOneStepBelowStateDirWrong : ChangeSpec := { name := "fnCommandDirOneStepBelowStateDir", fn := fun _ => fun
  | [d1, d2, d3, d4] => { results := [.lit (.bool false)], args := [d1, d2, d3, d4] }
  | _ => none }
def FnCommandDirOneStepBelowStateDirWrongFalsely : Prop := fnCommandDirOneStepBelowStateDirRow.holds Try.pinned (OpenSpec.ofChange fnCommandDirOneStepBelowStateDirWrong)

/-- 'zzlaws_config_b1.FnCommandDirIgnoresSeparatorsAndUndoneSteps': WHATEVER THE INPUT: true; the input reads as it did. -/
def fnCommandDirIgnoresSeparatorsAndUndoneStepsSpec : ChangeSpec := { name := "fnCommandDirIgnoresSeparatorsAndUndoneSteps", fn := fun _ => fun
  | [d1, d2] => { results := [.lit (.bool true)], args := [d1, d2] }
  | _ => none }
def fnCommandDirIgnoresSeparatorsAndUndoneStepsRow : OpenClaim := { program := "qxb6609140a", sum := "93eb92762a13066f74c805892c583de41124ec382f24b30cc977be2490f6f182", func := "example.com/helmward/helmward/zzlaws_config_b1.FnCommandDirIgnoresSeparatorsAndUndoneSteps", spec := "fnCommandDirIgnoresSeparatorsAndUndoneSteps", inPlace := ["internal/abi.NoEscape", "internal/bytealg.MakeNoZero", "internal/bytealg.IndexByteString"], apart := false }
def FnCommandDirIgnoresSeparatorsAndUndoneStepsSaid : Prop := fnCommandDirIgnoresSeparatorsAndUndoneStepsRow.holds Try.pinned (OpenSpec.ofChange fnCommandDirIgnoresSeparatorsAndUndoneStepsSpec)

/-- ITS FALSE NEIGHBOUR: 'it returns false'. Refute it at one input. -/
def fnCommandDirIgnoresSeparatorsAndUndoneStepsWrong : ChangeSpec := { name := "fnCommandDirIgnoresSeparatorsAndUndoneSteps", fn := fun _ => fun
  | [d1, d2] => { results := [.lit (.bool false)], args := [d1, d2] }
  | _ => none }
def FnCommandDirIgnoresSeparatorsAndUndoneStepsWrongFalsely : Prop := fnCommandDirIgnoresSeparatorsAndUndoneStepsRow.holds Try.pinned (OpenSpec.ofChange fnCommandDirIgnoresSeparatorsAndUndoneStepsWrong)

/-- 'zzlaws_config_b1.FnWithClusterAttributeOrderOfDistinctNamesIsFree': WHATEVER THE INPUT: true; the input reads as it did. -/
def fnWithClusterAttributeOrderOfDistinctNamesIsFreeSpec : ChangeSpec := { name := "fnWithClusterAttributeOrderOfDistinctNamesIsFree", fn := fun _ => fun
  | [d1, d2, d3, d4, d5, d6] => { results := [.lit (.bool true)], args := [d1, d2, d3, d4, d5, d6] }
  | _ => none }
def fnWithClusterAttributeOrderOfDistinctNamesIsFreeRow : OpenClaim := { program := "qxb6609140a", sum := "93eb92762a13066f74c805892c583de41124ec382f24b30cc977be2490f6f182", func := "example.com/helmward/helmward/zzlaws_config_b1.FnWithClusterAttributeOrderOfDistinctNamesIsFree", spec := "fnWithClusterAttributeOrderOfDistinctNamesIsFree", inPlace := ["maps.clone"], apart := false }
def FnWithClusterAttributeOrderOfDistinctNamesIsFreeSaid : Prop := fnWithClusterAttributeOrderOfDistinctNamesIsFreeRow.holds Try.pinned (OpenSpec.ofChange fnWithClusterAttributeOrderOfDistinctNamesIsFreeSpec)

/-- ITS FALSE NEIGHBOUR: 'it returns false'. Refute it at one input. -/
def fnWithClusterAttributeOrderOfDistinctNamesIsFreeWrong : ChangeSpec := { name := "fnWithClusterAttributeOrderOfDistinctNamesIsFree", fn := fun _ => fun
  | [d1, d2, d3, d4, d5, d6] => { results := [.lit (.bool false)], args := [d1, d2, d3, d4, d5, d6] }
  | _ => none }
def FnWithClusterAttributeOrderOfDistinctNamesIsFreeWrongFalsely : Prop := fnWithClusterAttributeOrderOfDistinctNamesIsFreeRow.holds Try.pinned (OpenSpec.ofChange fnWithClusterAttributeOrderOfDistinctNamesIsFreeWrong)

end Rows
end Go.Proofs.Qxb6609140a

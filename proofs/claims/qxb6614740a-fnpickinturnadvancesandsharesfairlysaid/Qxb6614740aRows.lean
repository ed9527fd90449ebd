/-
  No cell of these rows narrows 'for every input' (looked for: loops, veiled, ifaces, maps, wideKeys, modest, calm, conditions, laid).
  DERIVED. THE GIVEN ROWS OF THIS SEAT. 6 by the template 'for every input the law returns true; each argument reads behind the call as it read before'; 0 by the template 'total and deterministic' (their statements: Qxb6614740aTotals.lean).
  GIVEN WITH THE SEED: the statements are not yours to turn. If you find one false, say at which input.
  Laid BY PROGRAM, IN A SANDBOX (cutbox-rows.mjs): the forced cells as the released guide's own fill.sh prints them over the translation c29cae9020e96bea… (all of the seat's roots in one cut). By AI agents, Wed Nov 11 2026. No macro, syntax, notation, axiom, sorry.
-/
import Derived.Test.Qxb6614740aChecked
import GoSem.Claim
import GoSem.ClaimJoined
import GoSem.ClaimMapViews
import Derived.JoinedTies
import Derived.KernelRfl
namespace Go.Proofs.Qxb6614740a
/- THE CELL 'sum', in the pinned program and in every row, IS THE sha256 OF THE DUMP (.gsa) THAT Qxb6614740aProg.lean LOADS. Nothing in Lean hashes anything: it is a label: what it is worth is what the hold of that sum in a sandbox is worth. -/
noncomputable def Try.pinned : Pinned := { name := "qxb6614740a", sum := "c29cae9020e96beae7f2d6b8f1d1658ca856bc81715147b5eaa300048bffbf9e", checked := Try.checked }
namespace Rows
def none {H : Type} : Left H := { results := [], args := [] }

/-- 'zzlaws_root_b1.FnNewIdleQueueRepushChangesNothing': WHATEVER THE INPUT: true; the input reads as it did. -/
def fnNewIdleQueueRepushChangesNothingSpec : ChangeSpec := { name := "fnNewIdleQueueRepushChangesNothing", fn := fun _ => fun
  | [d1, d2] => { results := [.lit (.bool true)], args := [d1, d2] }
  | _ => none }
def fnNewIdleQueueRepushChangesNothingRow : OpenClaim := { program := "qxb6614740a", sum := "c29cae9020e96beae7f2d6b8f1d1658ca856bc81715147b5eaa300048bffbf9e", func := "example.com/twinpick/twinpick/zzlaws_root_b1.FnNewIdleQueueRepushChangesNothing", spec := "fnNewIdleQueueRepushChangesNothing", apart := false }
def FnNewIdleQueueRepushChangesNothingSaid : Prop := fnNewIdleQueueRepushChangesNothingRow.holds Try.pinned (OpenSpec.ofChange fnNewIdleQueueRepushChangesNothingSpec)

/-- ITS FALSE NEIGHBOUR: 'it returns false'. Refute it at one input. -/
def fnNewIdleQueueRepushChangesNothingWrong : ChangeSpec := { name := "fnNewIdleQueueRepushChangesNothing", fn := fun _ => fun
  | [d1, d2] => { results := [.lit (.bool false)], args := [d1, d2] }
  | _ => none }
def FnNewIdleQueueRepushChangesNothingWrongFalsely : Prop := fnNewIdleQueueRepushChangesNothingRow.holds Try.pinned (OpenSpec.ofChange fnNewIdleQueueRepushChangesNothingWrong)

/-- 'zzlaws_root_b1.FnIdleHasTellsWhatWasPushed': WHATEVER THE INPUT: true; the input reads as it did. -/
def fnIdleHasTellsWhatWasPushedSpec : ChangeSpec := { name := "fnIdleHasTellsWhatWasPushed", fn := fun _ => fun
  | [d1, d2] => { results := [.lit (.bool true)], args := [d1, d2] }
  | _ => none }
def fnIdleHasTellsWhatWasPushedRow : OpenClaim := { program := "qxb6614740a", sum := "c29cae9020e96beae7f2d6b8f1d1658ca856bc81715147b5eaa300048bffbf9e", func := "example.com/twinpick/twinpick/zzlaws_root_b1.FnIdleHasTellsWhatWasPushed", spec := "fnIdleHasTellsWhatWasPushed", apart := false }
def FnIdleHasTellsWhatWasPushedSaid : Prop := fnIdleHasTellsWhatWasPushedRow.holds Try.pinned (OpenSpec.ofChange fnIdleHasTellsWhatWasPushedSpec)

/-- ITS FALSE NEIGHBOUR: 'it returns false'. Refute it at one input. -/
def fnIdleHasTellsWhatWasPushedWrong : ChangeSpec := { name := "fnIdleHasTellsWhatWasPushed", fn := fun _ => fun
  | [d1, d2] => { results := [.lit (.bool false)], args := [d1, d2] }
  | _ => none }
def FnIdleHasTellsWhatWasPushedWrongFalsely : Prop := fnIdleHasTellsWhatWasPushedRow.holds Try.pinned (OpenSpec.ofChange fnIdleHasTellsWhatWasPushedWrong)

/-- 'zzlaws_root_b1.FnInSetHasFollowsScript': WHATEVER THE INPUT: true; the input reads as it did. -/
def fnInSetHasFollowsScriptSpec : ChangeSpec := { name := "fnInSetHasFollowsScript", fn := fun _ => fun
  | [d1, d2, d3] => { results := [.lit (.bool true)], args := [d1, d2, d3] }
  | _ => none }
def fnInSetHasFollowsScriptRow : OpenClaim := { program := "qxb6614740a", sum := "c29cae9020e96beae7f2d6b8f1d1658ca856bc81715147b5eaa300048bffbf9e", func := "example.com/twinpick/twinpick/zzlaws_root_b1.FnInSetHasFollowsScript", spec := "fnInSetHasFollowsScript", apart := false }
def FnInSetHasFollowsScriptSaid : Prop := fnInSetHasFollowsScriptRow.holds Try.pinned (OpenSpec.ofChange fnInSetHasFollowsScriptSpec)

/-- ITS FALSE NEIGHBOUR: 'it returns false'. Refute it at one input. -/
def fnInSetHasFollowsScriptWrong : ChangeSpec := { name := "fnInSetHasFollowsScript", fn := fun _ => fun
  | [d1, d2, d3] => { results := [.lit (.bool false)], args := [d1, d2, d3] }
  | _ => none }
def FnInSetHasFollowsScriptWrongFalsely : Prop := fnInSetHasFollowsScriptRow.holds Try.pinned (OpenSpec.ofChange fnInSetHasFollowsScriptWrong)

/-- 'zzlaws_root_b1.FnIdleHasForetellsPush': WHATEVER THE INPUT: true; the input reads as it did. -/
def fnIdleHasForetellsPushSpec : ChangeSpec := { name := "fnIdleHasForetellsPush", fn := fun _ => fun
  | [d1, d2] => { results := [.lit (.bool true)], args := [d1, d2] }
  | _ => none }
def fnIdleHasForetellsPushRow : OpenClaim := { program := "qxb6614740a", sum := "c29cae9020e96beae7f2d6b8f1d1658ca856bc81715147b5eaa300048bffbf9e", func := "example.com/twinpick/twinpick/zzlaws_root_b1.FnIdleHasForetellsPush", spec := "fnIdleHasForetellsPush", apart := false }
def FnIdleHasForetellsPushSaid : Prop := fnIdleHasForetellsPushRow.holds Try.pinned (OpenSpec.ofChange fnIdleHasForetellsPushSpec)

/-- ITS FALSE NEIGHBOUR: 'it returns false'. Refute it at one input. -/
def fnIdleHasForetellsPushWrong : ChangeSpec := { name := "fnIdleHasForetellsPush", fn := fun _ => fun
  | [d1, d2] => { results := [.lit (.bool false)], args := [d1, d2] }
  | _ => none }
def FnIdleHasForetellsPushWrongFalsely : Prop := fnIdleHasForetellsPushRow.holds Try.pinned (OpenSpec.ofChange fnIdleHasForetellsPushWrong)

/-- 'zzlaws_root_b1.FnPickInTurnWalksListCyclically': WHATEVER THE INPUT: true; the input reads as it did. -/
def fnPickInTurnWalksListCyclicallySpec : ChangeSpec := { name := "fnPickInTurnWalksListCyclically", fn := fun _ => fun
  | [d1, d2, d3] => { results := [.lit (.bool true)], args := [d1, d2, d3] }
  | _ => none }
def fnPickInTurnWalksListCyclicallyRow : OpenClaim := { program := "qxb6614740a", sum := "c29cae9020e96beae7f2d6b8f1d1658ca856bc81715147b5eaa300048bffbf9e", func := "example.com/twinpick/twinpick/zzlaws_root_b1.FnPickInTurnWalksListCyclically", spec := "fnPickInTurnWalksListCyclically", inPlace := ["sync/atomic.StoreUint64", "sync/atomic.AddUint64", "sync/atomic.LoadUint64"], apart := false }
def FnPickInTurnWalksListCyclicallySaid : Prop := fnPickInTurnWalksListCyclicallyRow.holds Try.pinned (OpenSpec.ofChange fnPickInTurnWalksListCyclicallySpec)

/-- ITS FALSE NEIGHBOUR: 'it returns false'. Refute it at one input. -/
def fnPickInTurnWalksListCyclicallyWrong : ChangeSpec := { name := "fnPickInTurnWalksListCyclically", fn := fun _ => fun
  | [d1, d2, d3] => { results := [.lit (.bool false)], args := [d1, d2, d3] }
  | _ => none }
def FnPickInTurnWalksListCyclicallyWrongFalsely : Prop := fnPickInTurnWalksListCyclicallyRow.holds Try.pinned (OpenSpec.ofChange fnPickInTurnWalksListCyclicallyWrong)

/-- 'zzlaws_root_b1.FnPickInTurnAdvancesAndSharesFairly': WHATEVER THE INPUT: true; the input reads as it did. -/
def fnPickInTurnAdvancesAndSharesFairlySpec : ChangeSpec := { name := "fnPickInTurnAdvancesAndSharesFairly", fn := fun _ => fun
  | [d1, d2, d3, d4] => { results := [.lit (.bool true)], args := [d1, d2, d3, d4] }
  | _ => none }
def fnPickInTurnAdvancesAndSharesFairlyRow : OpenClaim := { program := "qxb6614740a", sum := "c29cae9020e96beae7f2d6b8f1d1658ca856bc81715147b5eaa300048bffbf9e", func := "example.com/twinpick/twinpick/zzlaws_root_b1.FnPickInTurnAdvancesAndSharesFairly", spec := "fnPickInTurnAdvancesAndSharesFairly", inPlace := ["sync/atomic.StoreUint64", "sync/atomic.AddUint64", "sync/atomic.LoadUint64"], apart := false }
def FnPickInTurnAdvancesAndSharesFairlySaid : Prop := fnPickInTurnAdvancesAndSharesFairlyRow.holds Try.pinned (OpenSpec.ofChange fnPickInTurnAdvancesAndSharesFairlySpec)

/-- ITS FALSE NEIGHBOUR: 'it returns false'. Refute it at one input. -/
def fnPickInTurnAdvancesAndSharesFairlyWrong : ChangeSpec := { name := "fnPickInTurnAdvancesAndSharesFairly", fn := fun _ => fun
  | [d1, d2, d3, d4] => { results := [.lit (.bool false)], args := [d1, d2, d3, d4] }
  | _ => none }
def FnPickInTurnAdvancesAndSharesFairlyWrongFalsely : Prop := fnPickInTurnAdvancesAndSharesFairlyRow.holds Try.pinned (OpenSpec.ofChange fnPickInTurnAdvancesAndSharesFairlyWrong)

end Rows
end Go.Proofs.Qxb6614740a

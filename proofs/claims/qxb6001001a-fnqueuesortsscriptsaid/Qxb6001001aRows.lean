/-
  No cell of these rows narrows 'for every input' (looked for: loops, veiled, ifaces, maps, wideKeys, modest, calm, conditions, laid).
  DERIVED. THE GIVEN ROWS OF THIS SEAT. 5 by the template 'for every input the law returns true; each argument reads behind the call as it read before'; 0 by the template 'total and deterministic' (their statements: Qxb6001001aTotals.lean).
  GIVEN WITH THE SEED: the statements are not yours to turn. If you find one false, say at which input.
  Laid BY PROGRAM, IN A SANDBOX (cutbox-rows.mjs): the forced cells as the released guide's own fill.sh prints them over the translation 43e7e0a1fa99ff16… (all of the seat's roots in one cut). By AI agents, Wed Nov 11 2026. No macro, syntax, notation, axiom, sorry.
-/
import Derived.Test.Qxb6001001aChecked
import GoSem.Claim
import GoSem.ClaimJoined
import GoSem.ClaimMapViews
import Derived.JoinedTies
import Derived.KernelRfl
namespace Go.Proofs.Qxb6001001a
/- THE CELL 'sum', in the pinned program and in every row, IS THE sha256 OF THE DUMP (.gsa) THAT Qxb6001001aProg.lean LOADS. Nothing in Lean hashes anything: it is a label: what it is worth is what the hold of that sum in a sandbox is worth. -/
noncomputable def Try.pinned : Pinned := { name := "qxb6001001a", sum := "43e7e0a1fa99ff1622d3db5deaeea3bbd5333fc0bd7db3b30a00fdd05a471060", checked := Try.checked }
namespace Rows
def none {H : Type} : Left H := { results := [], args := [] }

/-- 'zzlaws_root_b1.FnSlotOfRoundTrip': WHATEVER THE INPUT: true; the input reads as it did. -/
def fnSlotOfRoundTripSpec : ChangeSpec := { name := "fnSlotOfRoundTrip", fn := fun _ => fun
  | [d1, d2, d3, d4] => { results := [.lit (.bool true)], args := [d1, d2, d3, d4] }
  | _ => none }
def fnSlotOfRoundTripRow : OpenClaim := { program := "qxb6001001a", sum := "43e7e0a1fa99ff1622d3db5deaeea3bbd5333fc0bd7db3b30a00fdd05a471060", func := "example.com/guard-by-deadline/guard-by-deadline/zzlaws_root_b1.FnSlotOfRoundTrip", spec := "fnSlotOfRoundTrip", apart := false }
def FnSlotOfRoundTripSaid : Prop := fnSlotOfRoundTripRow.holds Try.pinned (OpenSpec.ofChange fnSlotOfRoundTripSpec)

/-- ITS FALSE NEIGHBOUR: 'it returns false'. Refute it at one input. -/
def fnSlotOfRoundTripWrong : ChangeSpec := { name := "fnSlotOfRoundTrip", fn := fun _ => fun
  | [d1, d2, d3, d4] => { results := [.lit (.bool false)], args := [d1, d2, d3, d4] }
  | _ => none }
def FnSlotOfRoundTripWrongFalsely : Prop := fnSlotOfRoundTripRow.holds Try.pinned (OpenSpec.ofChange fnSlotOfRoundTripWrong)

/-- 'zzlaws_root_b1.FnSlotOfInjective': WHATEVER THE INPUT: true; the input reads as it did. -/
def fnSlotOfInjectiveSpec : ChangeSpec := { name := "fnSlotOfInjective", fn := fun _ => fun
  | [d1, d2, d3, d4, d5, d6, d7, d8] => { results := [.lit (.bool true)], args := [d1, d2, d3, d4, d5, d6, d7, d8] }
  | _ => none }
def fnSlotOfInjectiveRow : OpenClaim := { program := "qxb6001001a", sum := "43e7e0a1fa99ff1622d3db5deaeea3bbd5333fc0bd7db3b30a00fdd05a471060", func := "example.com/guard-by-deadline/guard-by-deadline/zzlaws_root_b1.FnSlotOfInjective", spec := "fnSlotOfInjective", apart := false }
def FnSlotOfInjectiveSaid : Prop := fnSlotOfInjectiveRow.holds Try.pinned (OpenSpec.ofChange fnSlotOfInjectiveSpec)

/-- ITS FALSE NEIGHBOUR: 'it returns false'. Refute it at one input. -/
def fnSlotOfInjectiveWrong : ChangeSpec := { name := "fnSlotOfInjective", fn := fun _ => fun
  | [d1, d2, d3, d4, d5, d6, d7, d8] => { results := [.lit (.bool false)], args := [d1, d2, d3, d4, d5, d6, d7, d8] }
  | _ => none }
def FnSlotOfInjectiveWrongFalsely : Prop := fnSlotOfInjectiveRow.holds Try.pinned (OpenSpec.ofChange fnSlotOfInjectiveWrong)

/-- 'zzlaws_root_b1.FnPushKeepsHeapAndContents': WHATEVER THE INPUT: true; the input reads as it did. -/
def fnPushKeepsHeapAndContentsSpec : ChangeSpec := { name := "fnPushKeepsHeapAndContents", fn := fun _ => fun
  | [d1, d2, d3, d4] => { results := [.lit (.bool true)], args := [d1, d2, d3, d4] }
  | _ => none }
def fnPushKeepsHeapAndContentsRow : OpenClaim := { program := "qxb6001001a", sum := "43e7e0a1fa99ff1622d3db5deaeea3bbd5333fc0bd7db3b30a00fdd05a471060", func := "example.com/guard-by-deadline/guard-by-deadline/zzlaws_root_b1.FnPushKeepsHeapAndContents", spec := "fnPushKeepsHeapAndContents", apart := false }
def FnPushKeepsHeapAndContentsSaid : Prop := fnPushKeepsHeapAndContentsRow.holds Try.pinned (OpenSpec.ofChange fnPushKeepsHeapAndContentsSpec)

/-- ITS FALSE NEIGHBOUR: 'it returns false'. Refute it at one input. -/
def fnPushKeepsHeapAndContentsWrong : ChangeSpec := { name := "fnPushKeepsHeapAndContents", fn := fun _ => fun
  | [d1, d2, d3, d4] => { results := [.lit (.bool false)], args := [d1, d2, d3, d4] }
  | _ => none }
def FnPushKeepsHeapAndContentsWrongFalsely : Prop := fnPushKeepsHeapAndContentsRow.holds Try.pinned (OpenSpec.ofChange fnPushKeepsHeapAndContentsWrong)

/-- 'zzlaws_root_b1.FnPopTakesSoonest': WHATEVER THE INPUT: true; the input reads as it did. -/
def fnPopTakesSoonestSpec : ChangeSpec := { name := "fnPopTakesSoonest", fn := fun _ => fun
  | [d1, d2, d3] => { results := [.lit (.bool true)], args := [d1, d2, d3] }
  | _ => none }
def fnPopTakesSoonestRow : OpenClaim := { program := "qxb6001001a", sum := "43e7e0a1fa99ff1622d3db5deaeea3bbd5333fc0bd7db3b30a00fdd05a471060", func := "example.com/guard-by-deadline/guard-by-deadline/zzlaws_root_b1.FnPopTakesSoonest", spec := "fnPopTakesSoonest", apart := false }
def FnPopTakesSoonestSaid : Prop := fnPopTakesSoonestRow.holds Try.pinned (OpenSpec.ofChange fnPopTakesSoonestSpec)

/-- ITS FALSE NEIGHBOUR: 'it returns false'. Refute it at one input. -/
def fnPopTakesSoonestWrong : ChangeSpec := { name := "fnPopTakesSoonest", fn := fun _ => fun
  | [d1, d2, d3] => { results := [.lit (.bool false)], args := [d1, d2, d3] }
  | _ => none }
def FnPopTakesSoonestWrongFalsely : Prop := fnPopTakesSoonestRow.holds Try.pinned (OpenSpec.ofChange fnPopTakesSoonestWrong)

/-- 'zzlaws_root_b1.FnQueueSortsScript': WHATEVER THE INPUT: true; the input reads as it did. -/
def fnQueueSortsScriptSpec : ChangeSpec := { name := "fnQueueSortsScript", fn := fun _ => fun
  | [d1, d2, d3] => { results := [.lit (.bool true)], args := [d1, d2, d3] }
  | _ => none }
def fnQueueSortsScriptRow : OpenClaim := { program := "qxb6001001a", sum := "43e7e0a1fa99ff1622d3db5deaeea3bbd5333fc0bd7db3b30a00fdd05a471060", func := "example.com/guard-by-deadline/guard-by-deadline/zzlaws_root_b1.FnQueueSortsScript", spec := "fnQueueSortsScript", apart := false }
def FnQueueSortsScriptSaid : Prop := fnQueueSortsScriptRow.holds Try.pinned (OpenSpec.ofChange fnQueueSortsScriptSpec)

/-- ITS FALSE NEIGHBOUR: 'it returns false'. Refute it at one input. -/
def fnQueueSortsScriptWrong : ChangeSpec := { name := "fnQueueSortsScript", fn := fun _ => fun
  | [d1, d2, d3] => { results := [.lit (.bool false)], args := [d1, d2, d3] }
  | _ => none }
def FnQueueSortsScriptWrongFalsely : Prop := fnQueueSortsScriptRow.holds Try.pinned (OpenSpec.ofChange fnQueueSortsScriptWrong)

end Rows
end Go.Proofs.Qxb6001001a

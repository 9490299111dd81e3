/-
  No cell of these rows narrows 'for every input' (looked for: loops, veiled, ifaces, maps, wideKeys, modest, calm, conditions, laid).
  DERIVED. THE GIVEN ROWS OF THIS SEAT. 7 by the template 'for every input the law returns true; each argument reads behind the call as it read before'; 0 by the template 'total and deterministic' (their statements: Qxb6001291aTotals.lean).
  GIVEN WITH THE SEED: the statements are not yours to turn. If you find one false, say at which input.
  Laid BY PROGRAM, IN A SANDBOX (cutbox-rows.mjs): the forced cells as the released guide's own fill.sh prints them over the translation 44e0f69550c5b5d6… (all of the seat's roots in one cut). By AI agents, Wed Nov 11 2026. No macro, syntax, notation, axiom, sorry.
-/
import Derived.Test.Qxb6001291aChecked
import GoSem.Claim
import GoSem.ClaimJoined
import GoSem.ClaimMapViews
import Derived.JoinedTies
import Derived.KernelRfl
namespace Go.Proofs.Qxb6001291a
/- THE CELL 'sum', in the pinned program and in every row, IS THE sha256 OF THE DUMP (.gsa) THAT Qxb6001291aProg.lean LOADS. Nothing in Lean hashes anything: it is a label: what it is worth is what the hold of that sum in a sandbox is worth. -/
noncomputable def Try.pinned : Pinned := { name := "qxb6001291a", sum := "44e0f69550c5b5d690de0ca3c41af819acdab719755dbc18254ba2a9ead995d6", checked := Try.checked }
namespace Rows
def none {H : Type} : Left H := { results := [], args := [] }

/-- 'zzlaws_internal_snmp_b1.FnAppendElementDecodes': WHATEVER THE INPUT: true; the input reads as it did. -/
def fnAppendElementDecodesSpec : ChangeSpec := { name := "fnAppendElementDecodes", fn := fun _ => fun
  | [d1, d2, d3] => { results := [.lit (.bool true)], args := [d1, d2, d3] }
  | _ => none }
def fnAppendElementDecodesRow : OpenClaim := { program := "qxb6001291a", sum := "44e0f69550c5b5d690de0ca3c41af819acdab719755dbc18254ba2a9ead995d6", func := "example.com/squallguard/squallguard/zzlaws_internal_snmp_b1.FnAppendElementDecodes", spec := "fnAppendElementDecodes", apart := false }
def FnAppendElementDecodesSaid : Prop := fnAppendElementDecodesRow.holds Try.pinned (OpenSpec.ofChange fnAppendElementDecodesSpec)

/-- ITS FALSE NEIGHBOUR: 'it returns false'. Refute it at one input. -/
def fnAppendElementDecodesWrong : ChangeSpec := { name := "fnAppendElementDecodes", fn := fun _ => fun
  | [d1, d2, d3] => { results := [.lit (.bool false)], args := [d1, d2, d3] }
  | _ => none }
def FnAppendElementDecodesWrongFalsely : Prop := fnAppendElementDecodesRow.holds Try.pinned (OpenSpec.ofChange fnAppendElementDecodesWrong)

/-- 'zzlaws_internal_snmp_b1.FnAppendElementPrefixIndependent': WHATEVER THE INPUT: true; the input reads as it did. -/
def fnAppendElementPrefixIndependentSpec : ChangeSpec := { name := "fnAppendElementPrefixIndependent", fn := fun _ => fun
  | [d1, d2, d3] => { results := [.lit (.bool true)], args := [d1, d2, d3] }
  | _ => none }
def fnAppendElementPrefixIndependentRow : OpenClaim := { program := "qxb6001291a", sum := "44e0f69550c5b5d690de0ca3c41af819acdab719755dbc18254ba2a9ead995d6", func := "example.com/squallguard/squallguard/zzlaws_internal_snmp_b1.FnAppendElementPrefixIndependent", spec := "fnAppendElementPrefixIndependent", apart := false }
def FnAppendElementPrefixIndependentSaid : Prop := fnAppendElementPrefixIndependentRow.holds Try.pinned (OpenSpec.ofChange fnAppendElementPrefixIndependentSpec)

/-- ITS FALSE NEIGHBOUR: 'it returns false'. Refute it at one input. -/
def fnAppendElementPrefixIndependentWrong : ChangeSpec := { name := "fnAppendElementPrefixIndependent", fn := fun _ => fun
  | [d1, d2, d3] => { results := [.lit (.bool false)], args := [d1, d2, d3] }
  | _ => none }
def FnAppendElementPrefixIndependentWrongFalsely : Prop := fnAppendElementPrefixIndependentRow.holds Try.pinned (OpenSpec.ofChange fnAppendElementPrefixIndependentWrong)

/-- 'zzlaws_internal_snmp_b1.FnAppendIntDecodes': WHATEVER THE INPUT: true; the input reads as it did. -/
def fnAppendIntDecodesSpec : ChangeSpec := { name := "fnAppendIntDecodes", fn := fun _ => fun
  | [d1, d2, d3] => { results := [.lit (.bool true)], args := [d1, d2, d3] }
  | _ => none }
def fnAppendIntDecodesRow : OpenClaim := { program := "qxb6001291a", sum := "44e0f69550c5b5d690de0ca3c41af819acdab719755dbc18254ba2a9ead995d6", func := "example.com/squallguard/squallguard/zzlaws_internal_snmp_b1.FnAppendIntDecodes", spec := "fnAppendIntDecodes", apart := false }
def FnAppendIntDecodesSaid : Prop := fnAppendIntDecodesRow.holds Try.pinned (OpenSpec.ofChange fnAppendIntDecodesSpec)

/-- ITS FALSE NEIGHBOUR: 'it returns false'. Refute it at one input. -/
def fnAppendIntDecodesWrong : ChangeSpec := { name := "fnAppendIntDecodes", fn := fun _ => fun
  | [d1, d2, d3] => { results := [.lit (.bool false)], args := [d1, d2, d3] }
  | _ => none }
def FnAppendIntDecodesWrongFalsely : Prop := fnAppendIntDecodesRow.holds Try.pinned (OpenSpec.ofChange fnAppendIntDecodesWrong)

/-- 'zzlaws_internal_snmp_b1.FnAppendIntAgreesWithUint': WHATEVER THE INPUT: true; the input reads as it did. -/
def fnAppendIntAgreesWithUintSpec : ChangeSpec := { name := "fnAppendIntAgreesWithUint", fn := fun _ => fun
  | [d1, d2, d3] => { results := [.lit (.bool true)], args := [d1, d2, d3] }
  | _ => none }
def fnAppendIntAgreesWithUintRow : OpenClaim := { program := "qxb6001291a", sum := "44e0f69550c5b5d690de0ca3c41af819acdab719755dbc18254ba2a9ead995d6", func := "example.com/squallguard/squallguard/zzlaws_internal_snmp_b1.FnAppendIntAgreesWithUint", spec := "fnAppendIntAgreesWithUint", apart := false }
def FnAppendIntAgreesWithUintSaid : Prop := fnAppendIntAgreesWithUintRow.holds Try.pinned (OpenSpec.ofChange fnAppendIntAgreesWithUintSpec)

/-- ITS FALSE NEIGHBOUR: 'it returns false'. Refute it at one input. -/
def fnAppendIntAgreesWithUintWrong : ChangeSpec := { name := "fnAppendIntAgreesWithUint", fn := fun _ => fun
  | [d1, d2, d3] => { results := [.lit (.bool false)], args := [d1, d2, d3] }
  | _ => none }
def FnAppendIntAgreesWithUintWrongFalsely : Prop := fnAppendIntAgreesWithUintRow.holds Try.pinned (OpenSpec.ofChange fnAppendIntAgreesWithUintWrong)

/-- 'zzlaws_internal_snmp_b1.FnAppendIntSizeMonotone': WHATEVER THE INPUT: true; the input reads as it did. -/
def fnAppendIntSizeMonotoneSpec : ChangeSpec := { name := "fnAppendIntSizeMonotone", fn := fun _ => fun
  | [d1, d2] => { results := [.lit (.bool true)], args := [d1, d2] }
  | _ => none }
def fnAppendIntSizeMonotoneRow : OpenClaim := { program := "qxb6001291a", sum := "44e0f69550c5b5d690de0ca3c41af819acdab719755dbc18254ba2a9ead995d6", func := "example.com/squallguard/squallguard/zzlaws_internal_snmp_b1.FnAppendIntSizeMonotone", spec := "fnAppendIntSizeMonotone", apart := false }
def FnAppendIntSizeMonotoneSaid : Prop := fnAppendIntSizeMonotoneRow.holds Try.pinned (OpenSpec.ofChange fnAppendIntSizeMonotoneSpec)

/-- ITS FALSE NEIGHBOUR: 'it returns false'. Refute it at one input. -/
def fnAppendIntSizeMonotoneWrong : ChangeSpec := { name := "fnAppendIntSizeMonotone", fn := fun _ => fun
  | [d1, d2] => { results := [.lit (.bool false)], args := [d1, d2] }
  | _ => none }
def FnAppendIntSizeMonotoneWrongFalsely : Prop := fnAppendIntSizeMonotoneRow.holds Try.pinned (OpenSpec.ofChange fnAppendIntSizeMonotoneWrong)

/-- 'zzlaws_internal_snmp_b1.FnAppendUintDecodes': WHATEVER THE INPUT: true; the input reads as it did. -/
def fnAppendUintDecodesSpec : ChangeSpec := { name := "fnAppendUintDecodes", fn := fun _ => fun
  | [d1, d2, d3] => { results := [.lit (.bool true)], args := [d1, d2, d3] }
  | _ => none }
def fnAppendUintDecodesRow : OpenClaim := { program := "qxb6001291a", sum := "44e0f69550c5b5d690de0ca3c41af819acdab719755dbc18254ba2a9ead995d6", func := "example.com/squallguard/squallguard/zzlaws_internal_snmp_b1.FnAppendUintDecodes", spec := "fnAppendUintDecodes", apart := false }
def FnAppendUintDecodesSaid : Prop := fnAppendUintDecodesRow.holds Try.pinned (OpenSpec.ofChange fnAppendUintDecodesSpec)

/-- ITS FALSE NEIGHBOUR: 'it returns false'. Refute it at one input. -/
def fnAppendUintDecodesWrong : ChangeSpec := { name := "fnAppendUintDecodes", fn := fun _ => fun
  | [d1, d2, d3] => { results := [.lit (.bool false)], args := [d1, d2, d3] }
  | _ => none }
def FnAppendUintDecodesWrongFalsely : Prop := fnAppendUintDecodesRow.holds Try.pinned (OpenSpec.ofChange fnAppendUintDecodesWrong)

/-- 'zzlaws_internal_snmp_b1.FnAppendUintSizeMonotone': WHATEVER THE INPUT: true; the input reads as it did. -/
def fnAppendUintSizeMonotoneSpec : ChangeSpec := { name := "fnAppendUintSizeMonotone", fn := fun _ => fun
  | [d1, d2] => { results := [.lit (.bool true)], args := [d1, d2] }
  | _ => none }
def fnAppendUintSizeMonotoneRow : OpenClaim := { program := "qxb6001291a", sum := "44e0f69550c5b5d690de0ca3c41af819acdab719755dbc18254ba2a9ead995d6", func := "example.com/squallguard/squallguard/zzlaws_internal_snmp_b1.FnAppendUintSizeMonotone", spec := "fnAppendUintSizeMonotone", apart := false }
def FnAppendUintSizeMonotoneSaid : Prop := fnAppendUintSizeMonotoneRow.holds Try.pinned (OpenSpec.ofChange fnAppendUintSizeMonotoneSpec)

/-- ITS FALSE NEIGHBOUR: 'it returns false'. Refute it at one input. -/
def fnAppendUintSizeMonotoneWrong : ChangeSpec := { name := "fnAppendUintSizeMonotone", fn := fun _ => fun
  | [d1, d2] => { results := [.lit (.bool false)], args := [d1, d2] }
  | _ => none }
def FnAppendUintSizeMonotoneWrongFalsely : Prop := fnAppendUintSizeMonotoneRow.holds Try.pinned (OpenSpec.ofChange fnAppendUintSizeMonotoneWrong)

end Rows
end Go.Proofs.Qxb6001291a

/-
  No cell of these rows narrows 'for every input' (looked for: loops, veiled, ifaces, maps, wideKeys, modest, calm, conditions, laid).
  DERIVED. THE GIVEN ROWS OF THIS SEAT. 8 by the template 'for every input the law returns true; each argument reads behind the call as it read before'; 0 by the template 'total and deterministic' (their statements: Qxb6000123aTotals.lean).
  GIVEN WITH THE SEED: the statements are not yours to turn. If you find one false, say at which input.
  Laid BY PROGRAM, IN A SANDBOX (cutbox-rows.mjs): the forced cells as the released guide's own fill.sh prints them over the translation fdaf89719e7df232… (all of the seat's roots in one cut). By AI agents, Wed Nov 11 2026. No macro, syntax, notation, axiom, sorry.
-/
import Derived.Test.Qxb6000123aChecked
import GoSem.Claim
import GoSem.ClaimJoined
import GoSem.ClaimMapViews
import Derived.JoinedTies
import Derived.KernelRfl
namespace Go.Proofs.Qxb6000123a
/- THE CELL 'sum', in the pinned program and in every row, IS THE sha256 OF THE DUMP (.gsa) THAT Qxb6000123aProg.lean LOADS. Nothing in Lean hashes anything: it is a label: what it is worth is what the hold of that sum in a sandbox is worth. -/
noncomputable def Try.pinned : Pinned := { name := "qxb6000123a", sum := "fdaf89719e7df232a749d8a802b59d361856635733d1636fa8bf04bfb01b5443", checked := Try.checked }
namespace Rows
def none {H : Type} : Left H := { results := [], args := [] }

/-- 'zzlaws_internal_checksum_b1.FnTimesXIsLinear': WHATEVER THE INPUT: true; the input reads as it did. -/
def fnTimesXIsLinearSpec : ChangeSpec := { name := "fnTimesXIsLinear", fn := fun _ => fun
  | [d1, d2, d3, d4] => { results := [.lit (.bool true)], args := [d1, d2, d3, d4] }
  | _ => none }
def fnTimesXIsLinearRow : OpenClaim := { program := "qxb6000123a", sum := "fdaf89719e7df232a749d8a802b59d361856635733d1636fa8bf04bfb01b5443", func := "example.com/branches-over-buckets/branches-over-buckets/zzlaws_internal_checksum_b1.FnTimesXIsLinear", spec := "fnTimesXIsLinear", apart := false }
def FnTimesXIsLinearSaid : Prop := fnTimesXIsLinearRow.holds Try.pinned (OpenSpec.ofChange fnTimesXIsLinearSpec)

/-- ITS FALSE NEIGHBOUR: 'it returns false'. Refute it at one input. -/
def fnTimesXIsLinearWrong : ChangeSpec := { name := "fnTimesXIsLinear", fn := fun _ => fun
  | [d1, d2, d3, d4] => { results := [.lit (.bool false)], args := [d1, d2, d3, d4] }
  | _ => none }
def FnTimesXIsLinearWrongFalsely : Prop := fnTimesXIsLinearRow.holds Try.pinned (OpenSpec.ofChange fnTimesXIsLinearWrong)

/-- 'zzlaws_internal_checksum_b1.FnTimesXAgreesWithTimesByX': WHATEVER THE INPUT: true; the input reads as it did. -/
def fnTimesXAgreesWithTimesByXSpec : ChangeSpec := { name := "fnTimesXAgreesWithTimesByX", fn := fun _ => fun
  | [d1, d2, d3] => { results := [.lit (.bool true)], args := [d1, d2, d3] }
  | _ => none }
def fnTimesXAgreesWithTimesByXRow : OpenClaim := { program := "qxb6000123a", sum := "fdaf89719e7df232a749d8a802b59d361856635733d1636fa8bf04bfb01b5443", func := "example.com/branches-over-buckets/branches-over-buckets/zzlaws_internal_checksum_b1.FnTimesXAgreesWithTimesByX", spec := "fnTimesXAgreesWithTimesByX", apart := false }
def FnTimesXAgreesWithTimesByXSaid : Prop := fnTimesXAgreesWithTimesByXRow.holds Try.pinned (OpenSpec.ofChange fnTimesXAgreesWithTimesByXSpec)

/-- ITS FALSE NEIGHBOUR: 'it returns false'. Refute it at one input. -/
def fnTimesXAgreesWithTimesByXWrong : ChangeSpec := { name := "fnTimesXAgreesWithTimesByX", fn := fun _ => fun
  | [d1, d2, d3] => { results := [.lit (.bool false)], args := [d1, d2, d3] }
  | _ => none }
def FnTimesXAgreesWithTimesByXWrongFalsely : Prop := fnTimesXAgreesWithTimesByXRow.holds Try.pinned (OpenSpec.ofChange fnTimesXAgreesWithTimesByXWrong)

/-- 'zzlaws_internal_checksum_b1.FnTimesMatchesNormalOrderModel': WHATEVER THE INPUT: true; the input reads as it did. -/
def fnTimesMatchesNormalOrderModelSpec : ChangeSpec := { name := "fnTimesMatchesNormalOrderModel", fn := fun _ => fun
  | [d1, d2, d3, d4] => { results := [.lit (.bool true)], args := [d1, d2, d3, d4] }
  | _ => none }
def fnTimesMatchesNormalOrderModelRow : OpenClaim := { program := "qxb6000123a", sum := "fdaf89719e7df232a749d8a802b59d361856635733d1636fa8bf04bfb01b5443", func := "example.com/branches-over-buckets/branches-over-buckets/zzlaws_internal_checksum_b1.FnTimesMatchesNormalOrderModel", spec := "fnTimesMatchesNormalOrderModel", apart := false }
def FnTimesMatchesNormalOrderModelSaid : Prop := fnTimesMatchesNormalOrderModelRow.holds Try.pinned (OpenSpec.ofChange fnTimesMatchesNormalOrderModelSpec)

/-- ITS FALSE NEIGHBOUR: 'it returns false'. Refute it at one input. -/
def fnTimesMatchesNormalOrderModelWrong : ChangeSpec := { name := "fnTimesMatchesNormalOrderModel", fn := fun _ => fun
  | [d1, d2, d3, d4] => { results := [.lit (.bool false)], args := [d1, d2, d3, d4] }
  | _ => none }
def FnTimesMatchesNormalOrderModelWrongFalsely : Prop := fnTimesMatchesNormalOrderModelRow.holds Try.pinned (OpenSpec.ofChange fnTimesMatchesNormalOrderModelWrong)

/-- 'zzlaws_internal_checksum_b1.FnTimesIsCommutative': WHATEVER THE INPUT: true; the input reads as it did. -/
def fnTimesIsCommutativeSpec : ChangeSpec := { name := "fnTimesIsCommutative", fn := fun _ => fun
  | [d1, d2, d3, d4] => { results := [.lit (.bool true)], args := [d1, d2, d3, d4] }
  | _ => none }
def fnTimesIsCommutativeRow : OpenClaim := { program := "qxb6000123a", sum := "fdaf89719e7df232a749d8a802b59d361856635733d1636fa8bf04bfb01b5443", func := "example.com/branches-over-buckets/branches-over-buckets/zzlaws_internal_checksum_b1.FnTimesIsCommutative", spec := "fnTimesIsCommutative", apart := false }
def FnTimesIsCommutativeSaid : Prop := fnTimesIsCommutativeRow.holds Try.pinned (OpenSpec.ofChange fnTimesIsCommutativeSpec)

/-- ITS FALSE NEIGHBOUR: 'it returns false'. Refute it at one input. -/
def fnTimesIsCommutativeWrong : ChangeSpec := { name := "fnTimesIsCommutative", fn := fun _ => fun
  | [d1, d2, d3, d4] => { results := [.lit (.bool false)], args := [d1, d2, d3, d4] }
  | _ => none }
def FnTimesIsCommutativeWrongFalsely : Prop := fnTimesIsCommutativeRow.holds Try.pinned (OpenSpec.ofChange fnTimesIsCommutativeWrong)

/-- 'zzlaws_internal_checksum_b1.FnTimesDistributesOverXor': WHATEVER THE INPUT: true; the input reads as it did. -/
def fnTimesDistributesOverXorSpec : ChangeSpec := { name := "fnTimesDistributesOverXor", fn := fun _ => fun
  | [d1, d2, d3, d4, d5] => { results := [.lit (.bool true)], args := [d1, d2, d3, d4, d5] }
  | _ => none }
def fnTimesDistributesOverXorRow : OpenClaim := { program := "qxb6000123a", sum := "fdaf89719e7df232a749d8a802b59d361856635733d1636fa8bf04bfb01b5443", func := "example.com/branches-over-buckets/branches-over-buckets/zzlaws_internal_checksum_b1.FnTimesDistributesOverXor", spec := "fnTimesDistributesOverXor", apart := false }
def FnTimesDistributesOverXorSaid : Prop := fnTimesDistributesOverXorRow.holds Try.pinned (OpenSpec.ofChange fnTimesDistributesOverXorSpec)

/-- ITS FALSE NEIGHBOUR: 'it returns false'. Refute it at one input. -/
def fnTimesDistributesOverXorWrong : ChangeSpec := { name := "fnTimesDistributesOverXor", fn := fun _ => fun
  | [d1, d2, d3, d4, d5] => { results := [.lit (.bool false)], args := [d1, d2, d3, d4, d5] }
  | _ => none }
def FnTimesDistributesOverXorWrongFalsely : Prop := fnTimesDistributesOverXorRow.holds Try.pinned (OpenSpec.ofChange fnTimesDistributesOverXorWrong)

/-- 'zzlaws_internal_checksum_b1.FnShiftMatchesPowerModel': WHATEVER THE INPUT: true; the input reads as it did. -/
def fnShiftMatchesPowerModelSpec : ChangeSpec := { name := "fnShiftMatchesPowerModel", fn := fun _ => fun
  | [d1, d2, d3, d4] => { results := [.lit (.bool true)], args := [d1, d2, d3, d4] }
  | _ => none }
def fnShiftMatchesPowerModelRow : OpenClaim := { program := "qxb6000123a", sum := "fdaf89719e7df232a749d8a802b59d361856635733d1636fa8bf04bfb01b5443", func := "example.com/branches-over-buckets/branches-over-buckets/zzlaws_internal_checksum_b1.FnShiftMatchesPowerModel", spec := "fnShiftMatchesPowerModel", apart := false }
def FnShiftMatchesPowerModelSaid : Prop := fnShiftMatchesPowerModelRow.holds Try.pinned (OpenSpec.ofChange fnShiftMatchesPowerModelSpec)

/-- ITS FALSE NEIGHBOUR: 'it returns false'. Refute it at one input. -/
def fnShiftMatchesPowerModelWrong : ChangeSpec := { name := "fnShiftMatchesPowerModel", fn := fun _ => fun
  | [d1, d2, d3, d4] => { results := [.lit (.bool false)], args := [d1, d2, d3, d4] }
  | _ => none }
def FnShiftMatchesPowerModelWrongFalsely : Prop := fnShiftMatchesPowerModelRow.holds Try.pinned (OpenSpec.ofChange fnShiftMatchesPowerModelWrong)

/-- 'zzlaws_internal_checksum_b1.FnShiftComposes': WHATEVER THE INPUT: true; the input reads as it did. -/
def fnShiftComposesSpec : ChangeSpec := { name := "fnShiftComposes", fn := fun _ => fun
  | [d1, d2, d3, d4, d5] => { results := [.lit (.bool true)], args := [d1, d2, d3, d4, d5] }
  | _ => none }
def fnShiftComposesRow : OpenClaim := { program := "qxb6000123a", sum := "fdaf89719e7df232a749d8a802b59d361856635733d1636fa8bf04bfb01b5443", func := "example.com/branches-over-buckets/branches-over-buckets/zzlaws_internal_checksum_b1.FnShiftComposes", spec := "fnShiftComposes", apart := false }
def FnShiftComposesSaid : Prop := fnShiftComposesRow.holds Try.pinned (OpenSpec.ofChange fnShiftComposesSpec)

/-- ITS FALSE NEIGHBOUR: 'it returns false'. Refute it at one input. -/
def fnShiftComposesWrong : ChangeSpec := { name := "fnShiftComposes", fn := fun _ => fun
  | [d1, d2, d3, d4, d5] => { results := [.lit (.bool false)], args := [d1, d2, d3, d4, d5] }
  | _ => none }
def FnShiftComposesWrongFalsely : Prop := fnShiftComposesRow.holds Try.pinned (OpenSpec.ofChange fnShiftComposesWrong)

/-- 'zzlaws_internal_checksum_b1.FnShiftIsLinear': WHATEVER THE INPUT: true; the input reads as it did. -/
def fnShiftIsLinearSpec : ChangeSpec := { name := "fnShiftIsLinear", fn := fun _ => fun
  | [d1, d2, d3, d4, d5] => { results := [.lit (.bool true)], args := [d1, d2, d3, d4, d5] }
  | _ => none }
def fnShiftIsLinearRow : OpenClaim := { program := "qxb6000123a", sum := "fdaf89719e7df232a749d8a802b59d361856635733d1636fa8bf04bfb01b5443", func := "example.com/branches-over-buckets/branches-over-buckets/zzlaws_internal_checksum_b1.FnShiftIsLinear", spec := "fnShiftIsLinear", apart := false }
def FnShiftIsLinearSaid : Prop := fnShiftIsLinearRow.holds Try.pinned (OpenSpec.ofChange fnShiftIsLinearSpec)

/-- ITS FALSE NEIGHBOUR: 'it returns false'. Refute it at one input. -/
def fnShiftIsLinearWrong : ChangeSpec := { name := "fnShiftIsLinear", fn := fun _ => fun
  | [d1, d2, d3, d4, d5] => { results := [.lit (.bool false)], args := [d1, d2, d3, d4, d5] }
  | _ => none }
def FnShiftIsLinearWrongFalsely : Prop := fnShiftIsLinearRow.holds Try.pinned (OpenSpec.ofChange fnShiftIsLinearWrong)

end Rows
end Go.Proofs.Qxb6000123a

/-
  No cell of these rows narrows 'for every input' (looked for: loops, veiled, ifaces, maps, wideKeys, modest, calm, conditions, laid).
  DERIVED. THE GIVEN ROWS OF THIS SEAT. 5 by the template 'for every input the law returns true; each argument reads behind the call as it read before'; 0 by the template 'total and deterministic' (their statements: Qxb6602551aTotals.lean).
  GIVEN WITH THE SEED: the statements are not yours to turn. If you find one false, say at which input.
  Laid BY PROGRAM, IN A SANDBOX (cutbox-rows.mjs): the forced cells as the released guide's own fill.sh prints them over the translation 85913520173c1eaf… (all of the seat's roots in one cut). By AI agents, Wed Nov 11 2026. No macro, syntax, notation, axiom, sorry.
-/
import Derived.Test.Qxb6602551aChecked
import GoSem.Claim
import GoSem.ClaimJoined
import GoSem.ClaimMapViews
import Derived.JoinedTies
import Derived.KernelRfl
namespace Go.Proofs.Qxb6602551a
/- THE CELL 'sum', in the pinned program and in every row, IS THE sha256 OF THE DUMP (.gsa) THAT Qxb6602551aProg.lean LOADS. Nothing in Lean hashes anything: it is a label: what it is worth is what the hold of that sum in a sandbox is worth. -/
noncomputable def Try.pinned : Pinned := { name := "qxb6602551a", sum := "85913520173c1eaf77e5ecd5f3decc4c94fcbe589498879eedbe51b511ca083f", checked := Try.checked }
namespace Rows
def none {H : Type} : Left H := { results := [], args := [] }

/-- 'zzlaws_internal_ot_b1.FnInsertMatchesCanonicalModel': WHATEVER THE INPUT: true; the input reads as it did. -/
def fnInsertMatchesCanonicalModelSpec : ChangeSpec := { name := "fnInsertMatchesCanonicalModel", fn := fun _ => fun
  | [d1, d2] => { results := [.lit (.bool true)], args := [d1, d2] }
  | _ => none }
def fnInsertMatchesCanonicalModelRow : OpenClaim := { program := "qxb6602551a", sum := "85913520173c1eaf77e5ecd5f3decc4c94fcbe589498879eedbe51b511ca083f", func := "example.com/quillwire/quillwire/zzlaws_internal_ot_b1.FnInsertMatchesCanonicalModel", spec := "fnInsertMatchesCanonicalModel", recurses := true, apart := false }
def FnInsertMatchesCanonicalModelSaid : Prop := fnInsertMatchesCanonicalModelRow.holds Try.pinned (OpenSpec.ofChange fnInsertMatchesCanonicalModelSpec)

/-- ITS FALSE NEIGHBOUR: 'it returns false'. Refute it at one input. -/
def fnInsertMatchesCanonicalModelWrong : ChangeSpec := { name := "fnInsertMatchesCanonicalModel", fn := fun _ => fun
  | [d1, d2] => { results := [.lit (.bool false)], args := [d1, d2] }
  | _ => none }
def FnInsertMatchesCanonicalModelWrongFalsely : Prop := fnInsertMatchesCanonicalModelRow.holds Try.pinned (OpenSpec.ofChange fnInsertMatchesCanonicalModelWrong)

/-- 'zzlaws_internal_ot_b1.FnInsertTwiceEqualsInsertOfConcatenation': WHATEVER THE INPUT: true; the input reads as it did. -/
def fnInsertTwiceEqualsInsertOfConcatenationSpec : ChangeSpec := { name := "fnInsertTwiceEqualsInsertOfConcatenation", fn := fun _ => fun
  | [d1, d2, d3] => { results := [.lit (.bool true)], args := [d1, d2, d3] }
  | _ => none }
def fnInsertTwiceEqualsInsertOfConcatenationRow : OpenClaim := { program := "qxb6602551a", sum := "85913520173c1eaf77e5ecd5f3decc4c94fcbe589498879eedbe51b511ca083f", func := "example.com/quillwire/quillwire/zzlaws_internal_ot_b1.FnInsertTwiceEqualsInsertOfConcatenation", spec := "fnInsertTwiceEqualsInsertOfConcatenation", recurses := true, apart := false }
def FnInsertTwiceEqualsInsertOfConcatenationSaid : Prop := fnInsertTwiceEqualsInsertOfConcatenationRow.holds Try.pinned (OpenSpec.ofChange fnInsertTwiceEqualsInsertOfConcatenationSpec)

/-- ITS FALSE NEIGHBOUR: 'it returns false'. Refute it at one input. -/
def fnInsertTwiceEqualsInsertOfConcatenationWrong : ChangeSpec := { name := "fnInsertTwiceEqualsInsertOfConcatenation", fn := fun _ => fun
  | [d1, d2, d3] => { results := [.lit (.bool false)], args := [d1, d2, d3] }
  | _ => none }
def FnInsertTwiceEqualsInsertOfConcatenationWrongFalsely : Prop := fnInsertTwiceEqualsInsertOfConcatenationRow.holds Try.pinned (OpenSpec.ofChange fnInsertTwiceEqualsInsertOfConcatenationWrong)

/-- 'zzlaws_internal_ot_b1.FnInsertKeepsItsOwnCopy': WHATEVER THE INPUT: true; the input reads as it did. -/
def fnInsertKeepsItsOwnCopySpec : ChangeSpec := { name := "fnInsertKeepsItsOwnCopy", fn := fun _ => fun
  | [d1, d2] => { results := [.lit (.bool true)], args := [d1, d2] }
  | _ => none }
def fnInsertKeepsItsOwnCopyRow : OpenClaim := { program := "qxb6602551a", sum := "85913520173c1eaf77e5ecd5f3decc4c94fcbe589498879eedbe51b511ca083f", func := "example.com/quillwire/quillwire/zzlaws_internal_ot_b1.FnInsertKeepsItsOwnCopy", spec := "fnInsertKeepsItsOwnCopy", recurses := true, apart := false }
def FnInsertKeepsItsOwnCopySaid : Prop := fnInsertKeepsItsOwnCopyRow.holds Try.pinned (OpenSpec.ofChange fnInsertKeepsItsOwnCopySpec)

/-- ITS FALSE NEIGHBOUR: 'it returns false'. Refute it at one input. -/
def fnInsertKeepsItsOwnCopyWrong : ChangeSpec := { name := "fnInsertKeepsItsOwnCopy", fn := fun _ => fun
  | [d1, d2] => { results := [.lit (.bool false)], args := [d1, d2] }
  | _ => none }
def FnInsertKeepsItsOwnCopyWrongFalsely : Prop := fnInsertKeepsItsOwnCopyRow.holds Try.pinned (OpenSpec.ofChange fnInsertKeepsItsOwnCopyWrong)

/-- 'zzlaws_internal_ot_b1.FnMergeIsTreapOfConcatenation': WHATEVER THE INPUT: true; the input reads as it did. -/
def fnMergeIsTreapOfConcatenationSpec : ChangeSpec := { name := "fnMergeIsTreapOfConcatenation", fn := fun _ => fun
  | [d1, d2] => { results := [.lit (.bool true)], args := [d1, d2] }
  | _ => none }
def fnMergeIsTreapOfConcatenationRow : OpenClaim := { program := "qxb6602551a", sum := "85913520173c1eaf77e5ecd5f3decc4c94fcbe589498879eedbe51b511ca083f", func := "example.com/quillwire/quillwire/zzlaws_internal_ot_b1.FnMergeIsTreapOfConcatenation", spec := "fnMergeIsTreapOfConcatenation", recurses := true, apart := false }
def FnMergeIsTreapOfConcatenationSaid : Prop := fnMergeIsTreapOfConcatenationRow.holds Try.pinned (OpenSpec.ofChange fnMergeIsTreapOfConcatenationSpec)

/-- ITS FALSE NEIGHBOUR: 'it returns false'. Refute it at one input. -/
def fnMergeIsTreapOfConcatenationWrong : ChangeSpec := { name := "fnMergeIsTreapOfConcatenation", fn := fun _ => fun
  | [d1, d2] => { results := [.lit (.bool false)], args := [d1, d2] }
  | _ => none }
def FnMergeIsTreapOfConcatenationWrongFalsely : Prop := fnMergeIsTreapOfConcatenationRow.holds Try.pinned (OpenSpec.ofChange fnMergeIsTreapOfConcatenationWrong)

/-- 'zzlaws_internal_ot_b1.FnMergeKeepsOrderAndSpansForAnyShape': WHATEVER THE INPUT: true; the input reads as it did. -/
def fnMergeKeepsOrderAndSpansForAnyShapeSpec : ChangeSpec := { name := "fnMergeKeepsOrderAndSpansForAnyShape", fn := fun _ => fun
  | [d1, d2] => { results := [.lit (.bool true)], args := [d1, d2] }
  | _ => none }
def fnMergeKeepsOrderAndSpansForAnyShapeRow : OpenClaim := { program := "qxb6602551a", sum := "85913520173c1eaf77e5ecd5f3decc4c94fcbe589498879eedbe51b511ca083f", func := "example.com/quillwire/quillwire/zzlaws_internal_ot_b1.FnMergeKeepsOrderAndSpansForAnyShape", spec := "fnMergeKeepsOrderAndSpansForAnyShape", recurses := true, apart := false }
def FnMergeKeepsOrderAndSpansForAnyShapeSaid : Prop := fnMergeKeepsOrderAndSpansForAnyShapeRow.holds Try.pinned (OpenSpec.ofChange fnMergeKeepsOrderAndSpansForAnyShapeSpec)

/-- ITS FALSE NEIGHBOUR: 'it returns false'. Refute it at one input. -/
def fnMergeKeepsOrderAndSpansForAnyShapeWrong : ChangeSpec := { name := "fnMergeKeepsOrderAndSpansForAnyShape", fn := fun _ => fun
  | [d1, d2] => { results := [.lit (.bool false)], args := [d1, d2] }
  | _ => none }
def FnMergeKeepsOrderAndSpansForAnyShapeWrongFalsely : Prop := fnMergeKeepsOrderAndSpansForAnyShapeRow.holds Try.pinned (OpenSpec.ofChange fnMergeKeepsOrderAndSpansForAnyShapeWrong)

end Rows
end Go.Proofs.Qxb6602551a

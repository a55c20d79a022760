/-
  No cell of these rows narrows 'for every input' (looked for: loops, veiled, ifaces, maps, wideKeys, modest, calm, conditions, laid).
  DERIVED. THE GIVEN ROWS OF THIS SEAT. 3 by the template 'for every input the law returns true; each argument reads behind the call as it read before'; 0 by the template 'total and deterministic' (their statements: Qxb6603102aTotals.lean).
  GIVEN WITH THE SEED: the statements are not yours to turn. If you find one false, say at which input.
  Laid BY PROGRAM, IN A SANDBOX (cutbox-rows.mjs): the forced cells as the released guide's own fill.sh prints them over the translation 8e6c57f1f8e252c7… (all of the seat's roots in one cut). By AI agents, Wed Nov 11 2026. No macro, syntax, notation, axiom, sorry.
-/
import Derived.Test.Qxb6603102aChecked
import GoSem.Claim
import GoSem.ClaimJoined
import GoSem.ClaimMapViews
import Derived.JoinedTies
import Derived.KernelRfl
namespace Go.Proofs.Qxb6603102a
/- THE CELL 'sum', in the pinned program and in every row, IS THE sha256 OF THE DUMP (.gsa) THAT Qxb6603102aProg.lean LOADS. Nothing in Lean hashes anything: it is a label: what it is worth is what the hold of that sum in a sandbox is worth. -/
noncomputable def Try.pinned : Pinned := { name := "qxb6603102a", sum := "8e6c57f1f8e252c794bca4d8c846959b37eb893a19bc4c6508aa54df57112820", checked := Try.checked }
namespace Rows
def none {H : Type} : Left H := { results := [], args := [] }

/-- 'zzlaws_internal_text_b1.FnHexValueMatchesDigitTable': WHATEVER THE INPUT: true; the input reads as it did. -/
def fnHexValueMatchesDigitTableSpec : ChangeSpec := { name := "fnHexValueMatchesDigitTable", fn := fun _ => fun
  | [d] => { results := [.lit (.bool true)], args := [d] }
  | _ => none }
def fnHexValueMatchesDigitTableRow : OpenClaim := { program := "qxb6603102a", sum := "8e6c57f1f8e252c794bca4d8c846959b37eb893a19bc4c6508aa54df57112820", func := "example.com/fresnel/fresnel/zzlaws_internal_text_b1.FnHexValueMatchesDigitTable", spec := "fnHexValueMatchesDigitTable", apart := false }
def FnHexValueMatchesDigitTableSaid : Prop := fnHexValueMatchesDigitTableRow.holds Try.pinned (OpenSpec.ofChange fnHexValueMatchesDigitTableSpec)

/-- ITS FALSE NEIGHBOUR: 'it returns false'. Refute it at one input. -/
def fnHexValueMatchesDigitTableWrong : ChangeSpec := { name := "fnHexValueMatchesDigitTable", fn := fun _ => fun
  | [d] => { results := [.lit (.bool false)], args := [d] }
  | _ => none }
def FnHexValueMatchesDigitTableWrongFalsely : Prop := fnHexValueMatchesDigitTableRow.holds Try.pinned (OpenSpec.ofChange fnHexValueMatchesDigitTableWrong)

/-- 'zzlaws_internal_text_b1.FnHexValueWritesBackToItsDigit': WHATEVER THE INPUT: true; the input reads as it did. -/
def fnHexValueWritesBackToItsDigitSpec : ChangeSpec := { name := "fnHexValueWritesBackToItsDigit", fn := fun _ => fun
  | [d] => { results := [.lit (.bool true)], args := [d] }
  | _ => none }
def fnHexValueWritesBackToItsDigitRow : OpenClaim := { program := "qxb6603102a", sum := "8e6c57f1f8e252c794bca4d8c846959b37eb893a19bc4c6508aa54df57112820", func := "example.com/fresnel/fresnel/zzlaws_internal_text_b1.FnHexValueWritesBackToItsDigit", spec := "fnHexValueWritesBackToItsDigit", apart := false }
def FnHexValueWritesBackToItsDigitSaid : Prop := fnHexValueWritesBackToItsDigitRow.holds Try.pinned (OpenSpec.ofChange fnHexValueWritesBackToItsDigitSpec)

/-- ITS FALSE NEIGHBOUR: 'it returns false'. Refute it at one input. -/
def fnHexValueWritesBackToItsDigitWrong : ChangeSpec := { name := "fnHexValueWritesBackToItsDigit", fn := fun _ => fun
  | [d] => { results := [.lit (.bool false)], args := [d] }
  | _ => none }
def FnHexValueWritesBackToItsDigitWrongFalsely : Prop := fnHexValueWritesBackToItsDigitRow.holds Try.pinned (OpenSpec.ofChange fnHexValueWritesBackToItsDigitWrong)

/-- 'zzlaws_internal_text_b1.FnHexValueIsCaseBlind': WHATEVER THE INPUT: true; the input reads as it did. -/
def fnHexValueIsCaseBlindSpec : ChangeSpec := { name := "fnHexValueIsCaseBlind", fn := fun _ => fun
  | [d] => { results := [.lit (.bool true)], args := [d] }
  | _ => none }
def fnHexValueIsCaseBlindRow : OpenClaim := { program := "qxb6603102a", sum := "8e6c57f1f8e252c794bca4d8c846959b37eb893a19bc4c6508aa54df57112820", func := "example.com/fresnel/fresnel/zzlaws_internal_text_b1.FnHexValueIsCaseBlind", spec := "fnHexValueIsCaseBlind", apart := false }
def FnHexValueIsCaseBlindSaid : Prop := fnHexValueIsCaseBlindRow.holds Try.pinned (OpenSpec.ofChange fnHexValueIsCaseBlindSpec)

/-- ITS FALSE NEIGHBOUR: 'it returns false'. Refute it at one input. -/
def fnHexValueIsCaseBlindWrong : ChangeSpec := { name := "fnHexValueIsCaseBlind", fn := fun _ => fun
  | [d] => { results := [.lit (.bool false)], args := [d] }
  | _ => none }
def FnHexValueIsCaseBlindWrongFalsely : Prop := fnHexValueIsCaseBlindRow.holds Try.pinned (OpenSpec.ofChange fnHexValueIsCaseBlindWrong)

end Rows
end Go.Proofs.Qxb6603102a

/-
  SEAT b6000123a: THE WORDS OF THE TRANSLATION's HEAD. Three closed facts of the row ('mayEnter', 'liftsFinal', 'make') read the head's words out of one string of 930 signs; the kernel's own run of 'String.toList' over a literal of that length outgrows the lid on memory. Here the list of its signs is laid by 'String.toList_ofList' instead, once, and the three facts follow.
-/
import Derived.Test.Qxb6000123aRows
import Derived.ProofKit
namespace Go.Proofs.Qxb6000123a.words

def signs : List Char :=
  [ 'h', 'a', 'r', 'n', 'e', 's', 's', ' ', '2', 'b', 'd', '1', 'c', 'c', '1', '3', '3', '0', 'c', '5', '6', 'f', '1', '8', 'f', 'b', '1', 'f', '6', 'b', '1', '6', 'd', 'a', 'a', 'd', '4', '3', 'f', 'c',
    'c', 'e', 'd', '0', '3', '5', '8', '6', '2', '6', '3', '1', '3', '9', '7', '1', 'd', 'b', '7', '3', '5', '1', '4', '2', 'a', 'b', '9', 'e', 'a', '6', 'f', '8', ' ', 'c', 'u', 't', ' ', 'a', 't', ' ',
    'e', 'x', 'a', 'm', 'p', 'l', 'e', '.', 'c', 'o', 'm', '/', 'b', 'r', 'a', 'n', 'c', 'h', 'e', 's', '-', 'o', 'v', 'e', 'r', '-', 'b', 'u', 'c', 'k', 'e', 't', 's', '/', 'b', 'r', 'a', 'n', 'c', 'h',
    'e', 's', '-', 'o', 'v', 'e', 'r', '-', 'b', 'u', 'c', 'k', 'e', 't', 's', '/', 'z', 'z', 'l', 'a', 'w', 's', '_', 'i', 'n', 't', 'e', 'r', 'n', 'a', 'l', '_', 'c', 'h', 'e', 'c', 'k', 's', 'u', 'm',
    '_', 'b', '1', '.', 'F', 'n', 'T', 'i', 'm', 'e', 's', 'X', 'I', 's', 'L', 'i', 'n', 'e', 'a', 'r', ' ', 'e', 'x', 'a', 'm', 'p', 'l', 'e', '.', 'c', 'o', 'm', '/', 'b', 'r', 'a', 'n', 'c', 'h', 'e',
    's', '-', 'o', 'v', 'e', 'r', '-', 'b', 'u', 'c', 'k', 'e', 't', 's', '/', 'b', 'r', 'a', 'n', 'c', 'h', 'e', 's', '-', 'o', 'v', 'e', 'r', '-', 'b', 'u', 'c', 'k', 'e', 't', 's', '/', 'z', 'z', 'l',
    'a', 'w', 's', '_', 'i', 'n', 't', 'e', 'r', 'n', 'a', 'l', '_', 'c', 'h', 'e', 'c', 'k', 's', 'u', 'm', '_', 'b', '1', '.', 'F', 'n', 'T', 'i', 'm', 'e', 's', 'X', 'A', 'g', 'r', 'e', 'e', 's', 'W',
    'i', 't', 'h', 'T', 'i', 'm', 'e', 's', 'B', 'y', 'X', ' ', 'e', 'x', 'a', 'm', 'p', 'l', 'e', '.', 'c', 'o', 'm', '/', 'b', 'r', 'a', 'n', 'c', 'h', 'e', 's', '-', 'o', 'v', 'e', 'r', '-', 'b', 'u',
    'c', 'k', 'e', 't', 's', '/', 'b', 'r', 'a', 'n', 'c', 'h', 'e', 's', '-', 'o', 'v', 'e', 'r', '-', 'b', 'u', 'c', 'k', 'e', 't', 's', '/', 'z', 'z', 'l', 'a', 'w', 's', '_', 'i', 'n', 't', 'e', 'r',
    'n', 'a', 'l', '_', 'c', 'h', 'e', 'c', 'k', 's', 'u', 'm', '_', 'b', '1', '.', 'F', 'n', 'T', 'i', 'm', 'e', 's', 'M', 'a', 't', 'c', 'h', 'e', 's', 'N', 'o', 'r', 'm', 'a', 'l', 'O', 'r', 'd', 'e',
    'r', 'M', 'o', 'd', 'e', 'l', ' ', 'e', 'x', 'a', 'm', 'p', 'l', 'e', '.', 'c', 'o', 'm', '/', 'b', 'r', 'a', 'n', 'c', 'h', 'e', 's', '-', 'o', 'v', 'e', 'r', '-', 'b', 'u', 'c', 'k', 'e', 't', 's',
    '/', 'b', 'r', 'a', 'n', 'c', 'h', 'e', 's', '-', 'o', 'v', 'e', 'r', '-', 'b', 'u', 'c', 'k', 'e', 't', 's', '/', 'z', 'z', 'l', 'a', 'w', 's', '_', 'i', 'n', 't', 'e', 'r', 'n', 'a', 'l', '_', 'c',
    'h', 'e', 'c', 'k', 's', 'u', 'm', '_', 'b', '1', '.', 'F', 'n', 'T', 'i', 'm', 'e', 's', 'I', 's', 'C', 'o', 'm', 'm', 'u', 't', 'a', 't', 'i', 'v', 'e', ' ', 'e', 'x', 'a', 'm', 'p', 'l', 'e', '.',
    'c', 'o', 'm', '/', 'b', 'r', 'a', 'n', 'c', 'h', 'e', 's', '-', 'o', 'v', 'e', 'r', '-', 'b', 'u', 'c', 'k', 'e', 't', 's', '/', 'b', 'r', 'a', 'n', 'c', 'h', 'e', 's', '-', 'o', 'v', 'e', 'r', '-',
    'b', 'u', 'c', 'k', 'e', 't', 's', '/', 'z', 'z', 'l', 'a', 'w', 's', '_', 'i', 'n', 't', 'e', 'r', 'n', 'a', 'l', '_', 'c', 'h', 'e', 'c', 'k', 's', 'u', 'm', '_', 'b', '1', '.', 'F', 'n', 'T', 'i',
    'm', 'e', 's', 'D', 'i', 's', 't', 'r', 'i', 'b', 'u', 't', 'e', 's', 'O', 'v', 'e', 'r', 'X', 'o', 'r', ' ', 'e', 'x', 'a', 'm', 'p', 'l', 'e', '.', 'c', 'o', 'm', '/', 'b', 'r', 'a', 'n', 'c', 'h',
    'e', 's', '-', 'o', 'v', 'e', 'r', '-', 'b', 'u', 'c', 'k', 'e', 't', 's', '/', 'b', 'r', 'a', 'n', 'c', 'h', 'e', 's', '-', 'o', 'v', 'e', 'r', '-', 'b', 'u', 'c', 'k', 'e', 't', 's', '/', 'z', 'z',
    'l', 'a', 'w', 's', '_', 'i', 'n', 't', 'e', 'r', 'n', 'a', 'l', '_', 'c', 'h', 'e', 'c', 'k', 's', 'u', 'm', '_', 'b', '1', '.', 'F', 'n', 'S', 'h', 'i', 'f', 't', 'M', 'a', 't', 'c', 'h', 'e', 's',
    'P', 'o', 'w', 'e', 'r', 'M', 'o', 'd', 'e', 'l', ' ', 'e', 'x', 'a', 'm', 'p', 'l', 'e', '.', 'c', 'o', 'm', '/', 'b', 'r', 'a', 'n', 'c', 'h', 'e', 's', '-', 'o', 'v', 'e', 'r', '-', 'b', 'u', 'c',
    'k', 'e', 't', 's', '/', 'b', 'r', 'a', 'n', 'c', 'h', 'e', 's', '-', 'o', 'v', 'e', 'r', '-', 'b', 'u', 'c', 'k', 'e', 't', 's', '/', 'z', 'z', 'l', 'a', 'w', 's', '_', 'i', 'n', 't', 'e', 'r', 'n',
    'a', 'l', '_', 'c', 'h', 'e', 'c', 'k', 's', 'u', 'm', '_', 'b', '1', '.', 'F', 'n', 'S', 'h', 'i', 'f', 't', 'C', 'o', 'm', 'p', 'o', 's', 'e', 's', ' ', 'e', 'x', 'a', 'm', 'p', 'l', 'e', '.', 'c',
    'o', 'm', '/', 'b', 'r', 'a', 'n', 'c', 'h', 'e', 's', '-', 'o', 'v', 'e', 'r', '-', 'b', 'u', 'c', 'k', 'e', 't', 's', '/', 'b', 'r', 'a', 'n', 'c', 'h', 'e', 's', '-', 'o', 'v', 'e', 'r', '-', 'b',
    'u', 'c', 'k', 'e', 't', 's', '/', 'z', 'z', 'l', 'a', 'w', 's', '_', 'i', 'n', 't', 'e', 'r', 'n', 'a', 'l', '_', 'c', 'h', 'e', 'c', 'k', 's', 'u', 'm', '_', 'b', '1', '.', 'F', 'n', 'S', 'h', 'i',
    'f', 't', 'I', 's', 'L', 'i', 'n', 'e', 'a', 'r']
theorem lit_is : "harness 2bd1cc1330c56f18fb1f6b16daad43fcced0358626313971db735142ab9ea6f8 cut at example.com/branches-over-buckets/branches-over-buckets/zzlaws_internal_checksum_b1.FnTimesXIsLinear example.com/branches-over-buckets/branches-over-buckets/zzlaws_internal_checksum_b1.FnTimesXAgreesWithTimesByX example.com/branches-over-buckets/branches-over-buckets/zzlaws_internal_checksum_b1.FnTimesMatchesNormalOrderModel example.com/branches-over-buckets/branches-over-buckets/zzlaws_internal_checksum_b1.FnTimesIsCommutative example.com/branches-over-buckets/branches-over-buckets/zzlaws_internal_checksum_b1.FnTimesDistributesOverXor example.com/branches-over-buckets/branches-over-buckets/zzlaws_internal_checksum_b1.FnShiftMatchesPowerModel example.com/branches-over-buckets/branches-over-buckets/zzlaws_internal_checksum_b1.FnShiftComposes example.com/branches-over-buckets/branches-over-buckets/zzlaws_internal_checksum_b1.FnShiftIsLinear" = String.ofList signs := by kernel_rfl
theorem order_is : Try.pinned.checked.prog.initOrder = "harness 2bd1cc1330c56f18fb1f6b16daad43fcced0358626313971db735142ab9ea6f8 cut at example.com/branches-over-buckets/branches-over-buckets/zzlaws_internal_checksum_b1.FnTimesXIsLinear example.com/branches-over-buckets/branches-over-buckets/zzlaws_internal_checksum_b1.FnTimesXAgreesWithTimesByX example.com/branches-over-buckets/branches-over-buckets/zzlaws_internal_checksum_b1.FnTimesMatchesNormalOrderModel example.com/branches-over-buckets/branches-over-buckets/zzlaws_internal_checksum_b1.FnTimesIsCommutative example.com/branches-over-buckets/branches-over-buckets/zzlaws_internal_checksum_b1.FnTimesDistributesOverXor example.com/branches-over-buckets/branches-over-buckets/zzlaws_internal_checksum_b1.FnShiftMatchesPowerModel example.com/branches-over-buckets/branches-over-buckets/zzlaws_internal_checksum_b1.FnShiftComposes example.com/branches-over-buckets/branches-over-buckets/zzlaws_internal_checksum_b1.FnShiftIsLinear" := by kernel_rfl
theorem toList_is : Try.pinned.checked.prog.initOrder.toList = signs := by rw [order_is, lit_is, String.toList_ofList]
theorem words_is : ∃ rest, behindMainWord (wordsSigns Try.pinned.checked.prog.initOrder.toList) = ['c', 'u', 't'] :: rest := by
  rw [toList_is]
  exact ⟨(behindMainWord (wordsSigns signs)).tail, by kernel_rfl⟩
theorem lifts_of (P : Program) (rest : List (List Char)) (h : behindMainWord (wordsSigns P.initOrder.toList) = ['c', 'u', 't'] :: rest) (hl : P.headLifts = []) : P.liftsFinal = false := by
  unfold Program.liftsFinal
  rw [h, hl]
  kernel_rfl
theorem headLifts_of (P : Program) (rest : List (List Char)) (h : behindMainWord (wordsSigns P.initOrder.toList) = ['c', 'u', 't'] :: rest) : P.headLifts = [] := by
  unfold Program.headLifts
  rw [h]
  kernel_rfl
theorem make_of (P : Program) (rest : List (List Char)) (h : behindMainWord (wordsSigns P.initOrder.toList) = ['c', 'u', 't'] :: rest) : P.make = some .cut := by
  unfold Program.make
  rw [h]
  kernel_rfl
theorem enter_of (P : Program) (rest : List (List Char)) (h : behindMainWord (wordsSigns P.initOrder.toList) = ['c', 'u', 't'] :: rest) (h1 : P.laysLater = false) (h2 : P.bearsReflect = false) (h3 : P.doorFits [] = true) : P.mayEnter = true := by
  unfold Program.mayEnter
  rw [h, h1, h2]
  show ((_ || _ || (_ && _ && _ && _ && P.doorFits [])) : Bool) = true
  rw [h3]
  kernel_rfl
theorem lifts_is : Try.pinned.checked.prog.liftsFinal = false := by
  obtain ⟨rest, h⟩ := words_is
  exact lifts_of _ rest h (headLifts_of _ rest h)
theorem make_is : Try.pinned.checked.prog.make = some .cut := by
  obtain ⟨rest, h⟩ := words_is
  exact make_of _ rest h
theorem later_is : Try.pinned.checked.prog.laysLater = false := by kernel_rfl
theorem reflect_is : Try.pinned.checked.prog.bearsReflect = false := by kernel_rfl
theorem door_is : Try.pinned.checked.prog.doorFits [] = true := by kernel_rfl
theorem enter_is : Try.pinned.checked.prog.mayEnter = true := by
  obtain ⟨rest, h⟩ := words_is
  exact enter_of _ rest h later_is reflect_is door_is
theorem closed4 : joinedFacts Try.pinned.checked.prog 4 Try.f4 Rows.fnTimesXAgreesWithTimesByXSpec Rows.fnTimesXAgreesWithTimesByXRow = true := by
  unfold joinedFacts
  rw [enter_is, lifts_is, make_is]
  kernel_rfl
theorem closed5 : joinedFacts Try.pinned.checked.prog 5 Try.f5 Rows.fnTimesMatchesNormalOrderModelSpec Rows.fnTimesMatchesNormalOrderModelRow = true := by
  unfold joinedFacts
  rw [enter_is, lifts_is, make_is]
  kernel_rfl
end Go.Proofs.Qxb6000123a.words

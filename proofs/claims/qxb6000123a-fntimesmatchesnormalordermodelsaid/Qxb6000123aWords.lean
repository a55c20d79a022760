/-
  SEAT b6000123a: THE WORDS OF THE TRANSLATION's HEAD. Three closed facts of the row ('mayEnter', 'liftsFinal', 'make') read the head's words out of one string of 930 signs; the kernel's own run of 'String.toList' over a literal of that length outgrows the lid on memory. Here the list of its signs is laid by 'String.toList_ofList' instead, once, and the three facts follow.
-/
import Derived.Test.Qxb6000123aRows
import Derived.ProofKit
namespace Go.Proofs.Qxb6000123a.words

/-- The signs of the head's words, by their numbers. -/
def signs : List Char := List.map Char.ofNat
  [ 104, 97, 114, 110, 101, 115, 115, 32, 50, 98, 100, 49, 99, 99, 49, 51, 51, 48, 99, 53, 54, 102, 49, 56, 102, 98, 49, 102, 54, 98, 49, 54, 100, 97, 97, 100, 52, 51, 102, 99,
    99, 101, 100, 48, 51, 53, 56, 54, 50, 54, 51, 49, 51, 57, 55, 49, 100, 98, 55, 51, 53, 49, 52, 50, 97, 98, 57, 101, 97, 54, 102, 56, 32, 99, 117, 116, 32, 97, 116, 32,
    101, 120, 97, 109, 112, 108, 101, 46, 99, 111, 109, 47, 98, 114, 97, 110, 99, 104, 101, 115, 45, 111, 118, 101, 114, 45, 98, 117, 99, 107, 101, 116, 115, 47, 98, 114, 97, 110, 99, 104,
    101, 115, 45, 111, 118, 101, 114, 45, 98, 117, 99, 107, 101, 116, 115, 47, 122, 122, 108, 97, 119, 115, 95, 105, 110, 116, 101, 114, 110, 97, 108, 95, 99, 104, 101, 99, 107, 115, 117, 109,
    95, 98, 49, 46, 70, 110, 84, 105, 109, 101, 115, 88, 73, 115, 76, 105, 110, 101, 97, 114, 32, 101, 120, 97, 109, 112, 108, 101, 46, 99, 111, 109, 47, 98, 114, 97, 110, 99, 104, 101,
    115, 45, 111, 118, 101, 114, 45, 98, 117, 99, 107, 101, 116, 115, 47, 98, 114, 97, 110, 99, 104, 101, 115, 45, 111, 118, 101, 114, 45, 98, 117, 99, 107, 101, 116, 115, 47, 122, 122, 108,
    97, 119, 115, 95, 105, 110, 116, 101, 114, 110, 97, 108, 95, 99, 104, 101, 99, 107, 115, 117, 109, 95, 98, 49, 46, 70, 110, 84, 105, 109, 101, 115, 88, 65, 103, 114, 101, 101, 115, 87,
    105, 116, 104, 84, 105, 109, 101, 115, 66, 121, 88, 32, 101, 120, 97, 109, 112, 108, 101, 46, 99, 111, 109, 47, 98, 114, 97, 110, 99, 104, 101, 115, 45, 111, 118, 101, 114, 45, 98, 117,
    99, 107, 101, 116, 115, 47, 98, 114, 97, 110, 99, 104, 101, 115, 45, 111, 118, 101, 114, 45, 98, 117, 99, 107, 101, 116, 115, 47, 122, 122, 108, 97, 119, 115, 95, 105, 110, 116, 101, 114,
    110, 97, 108, 95, 99, 104, 101, 99, 107, 115, 117, 109, 95, 98, 49, 46, 70, 110, 84, 105, 109, 101, 115, 77, 97, 116, 99, 104, 101, 115, 78, 111, 114, 109, 97, 108, 79, 114, 100, 101,
    114, 77, 111, 100, 101, 108, 32, 101, 120, 97, 109, 112, 108, 101, 46, 99, 111, 109, 47, 98, 114, 97, 110, 99, 104, 101, 115, 45, 111, 118, 101, 114, 45, 98, 117, 99, 107, 101, 116, 115,
    47, 98, 114, 97, 110, 99, 104, 101, 115, 45, 111, 118, 101, 114, 45, 98, 117, 99, 107, 101, 116, 115, 47, 122, 122, 108, 97, 119, 115, 95, 105, 110, 116, 101, 114, 110, 97, 108, 95, 99,
    104, 101, 99, 107, 115, 117, 109, 95, 98, 49, 46, 70, 110, 84, 105, 109, 101, 115, 73, 115, 67, 111, 109, 109, 117, 116, 97, 116, 105, 118, 101, 32, 101, 120, 97, 109, 112, 108, 101, 46,
    99, 111, 109, 47, 98, 114, 97, 110, 99, 104, 101, 115, 45, 111, 118, 101, 114, 45, 98, 117, 99, 107, 101, 116, 115, 47, 98, 114, 97, 110, 99, 104, 101, 115, 45, 111, 118, 101, 114, 45,
    98, 117, 99, 107, 101, 116, 115, 47, 122, 122, 108, 97, 119, 115, 95, 105, 110, 116, 101, 114, 110, 97, 108, 95, 99, 104, 101, 99, 107, 115, 117, 109, 95, 98, 49, 46, 70, 110, 84, 105,
    109, 101, 115, 68, 105, 115, 116, 114, 105, 98, 117, 116, 101, 115, 79, 118, 101, 114, 88, 111, 114, 32, 101, 120, 97, 109, 112, 108, 101, 46, 99, 111, 109, 47, 98, 114, 97, 110, 99, 104,
    101, 115, 45, 111, 118, 101, 114, 45, 98, 117, 99, 107, 101, 116, 115, 47, 98, 114, 97, 110, 99, 104, 101, 115, 45, 111, 118, 101, 114, 45, 98, 117, 99, 107, 101, 116, 115, 47, 122, 122,
    108, 97, 119, 115, 95, 105, 110, 116, 101, 114, 110, 97, 108, 95, 99, 104, 101, 99, 107, 115, 117, 109, 95, 98, 49, 46, 70, 110, 83, 104, 105, 102, 116, 77, 97, 116, 99, 104, 101, 115,
    80, 111, 119, 101, 114, 77, 111, 100, 101, 108, 32, 101, 120, 97, 109, 112, 108, 101, 46, 99, 111, 109, 47, 98, 114, 97, 110, 99, 104, 101, 115, 45, 111, 118, 101, 114, 45, 98, 117, 99,
    107, 101, 116, 115, 47, 98, 114, 97, 110, 99, 104, 101, 115, 45, 111, 118, 101, 114, 45, 98, 117, 99, 107, 101, 116, 115, 47, 122, 122, 108, 97, 119, 115, 95, 105, 110, 116, 101, 114, 110,
    97, 108, 95, 99, 104, 101, 99, 107, 115, 117, 109, 95, 98, 49, 46, 70, 110, 83, 104, 105, 102, 116, 67, 111, 109, 112, 111, 115, 101, 115, 32, 101, 120, 97, 109, 112, 108, 101, 46, 99,
    111, 109, 47, 98, 114, 97, 110, 99, 104, 101, 115, 45, 111, 118, 101, 114, 45, 98, 117, 99, 107, 101, 116, 115, 47, 98, 114, 97, 110, 99, 104, 101, 115, 45, 111, 118, 101, 114, 45, 98,
    117, 99, 107, 101, 116, 115, 47, 122, 122, 108, 97, 119, 115, 95, 105, 110, 116, 101, 114, 110, 97, 108, 95, 99, 104, 101, 99, 107, 115, 117, 109, 95, 98, 49, 46, 70, 110, 83, 104, 105,
    102, 116, 73, 115, 76, 105, 110, 101, 97, 114]
theorem order_is : Try.pinned.checked.prog.initOrder = String.ofList signs := by kernel_rfl
theorem toList_is : Try.pinned.checked.prog.initOrder.toList = signs := by rw [order_is, String.toList_ofList]
theorem words_is : ∃ rest, behindMainWord (wordsSigns Try.pinned.checked.prog.initOrder.toList) = "cut".toList :: rest := by
  rw [toList_is]
  exact ⟨(behindMainWord (wordsSigns signs)).tail, by kernel_rfl⟩
theorem lifts_of (P : Program) (rest : List (List Char)) (h : behindMainWord (wordsSigns P.initOrder.toList) = "cut".toList :: rest) (hl : P.headLifts = []) : P.liftsFinal = false := by
  unfold Program.liftsFinal
  rw [h, hl]
  kernel_rfl
theorem headLifts_of (P : Program) (rest : List (List Char)) (h : behindMainWord (wordsSigns P.initOrder.toList) = "cut".toList :: rest) : P.headLifts = [] := by
  unfold Program.headLifts
  rw [h]
  kernel_rfl
theorem make_of (P : Program) (rest : List (List Char)) (h : behindMainWord (wordsSigns P.initOrder.toList) = "cut".toList :: rest) : P.make = some .cut := by
  unfold Program.make
  rw [h]
  kernel_rfl
theorem enter_of (P : Program) (rest : List (List Char)) (h : behindMainWord (wordsSigns P.initOrder.toList) = "cut".toList :: rest) (h1 : P.laysLater = false) (h2 : P.bearsReflect = false) (h3 : P.doorFits [] = true) : P.mayEnter = true := by
  unfold Program.mayEnter
  rw [h, h1, h2]
  show ((_ || _ || (_ && _ && _ && _ && P.doorFits [])) : Bool) = true
  rw [h3]
  kernel_rfl
theorem lifts_is : Try.pinned.checked.prog.liftsFinal = false := by
  obtain ⟨rest, h⟩ := words_is
  exact lifts_of _ rest h (headLifts_of _ rest h)
theorem make_is : Try.pinned.checked.prog.make = some .cut := by
  obtain ⟨rest, h⟩ := words_is
  exact make_of _ rest h
theorem later_is : Try.pinned.checked.prog.laysLater = false := by kernel_rfl
theorem reflect_is : Try.pinned.checked.prog.bearsReflect = false := by kernel_rfl
theorem door_is : Try.pinned.checked.prog.doorFits [] = true := by kernel_rfl
theorem enter_is : Try.pinned.checked.prog.mayEnter = true := by
  obtain ⟨rest, h⟩ := words_is
  exact enter_of _ rest h later_is reflect_is door_is
theorem closed4 : joinedFacts Try.pinned.checked.prog 4 Try.f4 Rows.fnTimesXAgreesWithTimesByXSpec Rows.fnTimesXAgreesWithTimesByXRow = true := by
  unfold joinedFacts
  rw [enter_is, lifts_is, make_is]
  kernel_rfl
theorem closed5 : joinedFacts Try.pinned.checked.prog 5 Try.f5 Rows.fnTimesMatchesNormalOrderModelSpec Rows.fnTimesMatchesNormalOrderModelRow = true := by
  unfold joinedFacts
  rw [enter_is, lifts_is, make_is]
  kernel_rfl
end Go.Proofs.Qxb6000123a.words

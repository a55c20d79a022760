/-
  SEAT b6603102a: the plain functions, and the contracts of the small functions on the roads.
-/
import Derived.Test.Qxb6603102aRows
import Derived.WalkKit
import Derived.RowKit
namespace Go.Proofs.Qxb6603102a
open Go.RowKit

/-- The plain function that 'hexValue' computes. -/
def hexv (c : Int) : Int := if 48 ≤ c ∧ c ≤ 57 then c - 48 else if 97 ≤ c ∧ c ≤ 102 then c - 97 + 10 else if 65 ≤ c ∧ c ≤ 70 then c - 65 + 10 else -1
def foldv (c : Int) : Int := if 65 ≤ c ∧ c ≤ 90 then c + 32 else c
def swapv (c : Int) : Int := if 97 ≤ c ∧ c ≤ 122 then c - 32 else if 65 ≤ c ∧ c ≤ 90 then c + 32 else c
def letter (c : Int) : Bool := decide ((97 ≤ c ∧ c ≤ 122) ∨ (65 ≤ c ∧ c ≤ 90))

theorem hexValue_any (c : Int) (h0 : 0 ≤ c) (h1 : c ≤ 255) (w : World) :
    Calls Try.prog 10 #[.int .u8 c] w fun e w' => e = .returned (.int .i64 (hexv c)) ∧ w' = w := by
  have hs : (48 ≤ c ∧ c ≤ 57) ∨ (97 ≤ c ∧ c ≤ 102) ∨ (65 ≤ c ∧ c ≤ 70) ∨ (c < 48) ∨ (57 < c ∧ c < 65) ∨ (70 < c ∧ c < 97) ∨ 102 < c := by omega
  rcases hs with h | h | h | h | h | h | h
  · have e : hexv c = c - 48 := by unfold hexv; rw [if_pos h]
    rw [e]
    go_enter Try.func10, Try.ntmps10
    go_wp2
    go_ret
    exact ⟨rfl, rfl⟩
  · have e : hexv c = c - 97 + 10 := by unfold hexv; rw [if_neg (by omega), if_pos h]
    rw [e]
    go_enter Try.func10, Try.ntmps10
    go_wp2
    go_ret
    exact ⟨rfl, rfl⟩
  · have e : hexv c = c - 65 + 10 := by unfold hexv; rw [if_neg (by omega), if_neg (by omega), if_pos h]
    rw [e]
    go_enter Try.func10, Try.ntmps10
    go_wp2
    go_ret
    exact ⟨rfl, rfl⟩
  all_goals
    have e : hexv c = -1 := by unfold hexv; rw [if_neg (by omega), if_neg (by omega), if_neg (by omega)]
    rw [e]
    go_enter Try.func10, Try.ntmps10
    go_wp2
    go_ret
    exact ⟨rfl, rfl⟩

theorem zzHex_any (c : Int) (h0 : 0 ≤ c) (h1 : c ≤ 255) (w : World) :
    Calls Try.prog 6 #[.int .u8 c] w fun e w' => e = .returned (.int .i64 (hexv c)) ∧ w' = w := by
  go_enter Try.func6, Try.ntmps6
  go_wp2_with fail
  refine (hexValue_any c h0 h1 _).mono ?_
  rintro e w' ⟨rfl, rfl⟩
  go_wp2_with fail
  go_ret
  exact ⟨rfl, rfl⟩

theorem fold_any (c : Int) (h0 : 0 ≤ c) (h1 : c ≤ 255) (w : World) :
    Calls Try.prog 7 #[.int .u8 c] w fun e w' => e = .returned (.int .u8 (foldv c)) ∧ w' = w := by
  have hs : (65 ≤ c ∧ c ≤ 90) ∨ c < 65 ∨ 90 < c := by omega
  rcases hs with h | h | h
  · have e : foldv c = c + 32 := by unfold foldv; rw [if_pos h]
    rw [e]
    go_enter Try.func7, Try.ntmps7
    go_wp2
    go_ret
    exact ⟨rfl, rfl⟩
  all_goals
    have e : foldv c = c := by unfold foldv; rw [if_neg (by omega)]
    rw [e]
    go_enter Try.func7, Try.ntmps7
    go_wp2
    go_ret
    exact ⟨rfl, rfl⟩

theorem swap_any (c : Int) (h0 : 0 ≤ c) (h1 : c ≤ 255) (w : World) :
    Calls Try.prog 8 #[.int .u8 c] w fun e w' => e = .returned (.int .u8 (swapv c)) ∧ w' = w := by
  have hs : (97 ≤ c ∧ c ≤ 122) ∨ (65 ≤ c ∧ c ≤ 90) ∨ c < 65 ∨ (90 < c ∧ c < 97) ∨ 122 < c := by omega
  rcases hs with h | h | h | h | h
  · have e : swapv c = c - 32 := by unfold swapv; rw [if_pos h]
    rw [e]
    go_enter Try.func8, Try.ntmps8
    go_wp2
    go_ret
    exact ⟨rfl, rfl⟩
  · have e : swapv c = c + 32 := by unfold swapv; rw [if_neg (by omega), if_pos h]
    rw [e]
    go_enter Try.func8, Try.ntmps8
    go_wp2
    go_ret
    exact ⟨rfl, rfl⟩
  all_goals
    have e : swapv c = c := by unfold swapv; rw [if_neg (by omega), if_neg (by omega)]
    rw [e]
    go_enter Try.func8, Try.ntmps8
    go_wp2
    go_ret
    exact ⟨rfl, rfl⟩

theorem letter_any (c : Int) (h0 : 0 ≤ c) (h1 : c ≤ 255) (w : World) :
    Calls Try.prog 9 #[.int .u8 c] w fun e w' => e = .returned (.bool (letter c)) ∧ w' = w := by
  have hs : (97 ≤ c ∧ c ≤ 122) ∨ (65 ≤ c ∧ c ≤ 90) ∨ c < 65 ∨ (90 < c ∧ c < 97) ∨ 122 < c := by omega
  rcases hs with h | h | h | h | h
  · have e : letter c = true := decide_eq_true (by omega)
    rw [e]
    go_enter Try.func9, Try.ntmps9
    go_wp2
    go_ret
    exact ⟨rfl, rfl⟩
  · have e : letter c = true := decide_eq_true (by omega)
    rw [e]
    go_enter Try.func9, Try.ntmps9
    go_wp2
    go_ret
    exact ⟨rfl, rfl⟩
  all_goals
    have e : letter c = false := decide_eq_false (by omega)
    rw [e]
    go_enter Try.func9, Try.ntmps9
    go_wp2
    go_ret
    exact ⟨by first | rfl | (simp; omega), rfl⟩

theorem hexv_range (c : Int) : hexv c = -1 ∨ (0 ≤ hexv c ∧ hexv c ≤ 15) := by
  unfold hexv
  split
  · omega
  · split
    · omega
    · split
      · omega
      · omega

theorem hexv_swap (c : Int) : hexv (swapv c) = hexv c := by
  unfold hexv swapv
  repeat' split
  all_goals omega

theorem hexv_past (c : Int) (hl : letter c = true) (hf : 102 < foldv c) : hexv c = -1 := by
  have := of_decide_eq_true hl
  unfold foldv at hf
  unfold hexv
  repeat' split
  all_goals split at hf
  all_goals omega
end Go.Proofs.Qxb6603102a

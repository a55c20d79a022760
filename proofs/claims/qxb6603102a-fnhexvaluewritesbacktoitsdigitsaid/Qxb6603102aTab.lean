/-
  SEAT b6603102a: the two tables of digits.
-/
import Derived.Test.Qxb6603102aHex
namespace Go.Proofs.Qxb6603102a
open Go.RowKit
def lowv (i : Int) : Int := if i < 10 then 48 + i else 87 + i
def upv (i : Int) : Int := if i < 10 then 48 + i else 55 + i

theorem index_low (i : Int) (h0 : 0 ≤ i) (h1 : i ≤ 15) (w : World) :
    (Instr.index 9 (.string ⟨#[48, 49, 50, 51, 52, 53, 54, 55, 56, 57, 97, 98, 99, 100, 101, 102]⟩) (.int .i64 i)).run Try.prog w = .ok (.int .u8 (lowv i)) w := by
  rw [run_index_string w 9 _ .i64 i (by kernel_rfl), dif_pos ⟨h0, by show i < 16; omega⟩]
  have hs : i = 0 ∨ i = 1 ∨ i = 2 ∨ i = 3 ∨ i = 4 ∨ i = 5 ∨ i = 6 ∨ i = 7 ∨ i = 8 ∨ i = 9 ∨ i = 10 ∨ i = 11 ∨ i = 12 ∨ i = 13 ∨ i = 14 ∨ i = 15 := by omega
  rcases hs with rfl | rfl | rfl | rfl | rfl | rfl | rfl | rfl | rfl | rfl | rfl | rfl | rfl | rfl | rfl | rfl <;> rfl
theorem index_up (i : Int) (h0 : 0 ≤ i) (h1 : i ≤ 15) (w : World) :
    (Instr.index 9 (.string ⟨#[48, 49, 50, 51, 52, 53, 54, 55, 56, 57, 65, 66, 67, 68, 69, 70]⟩) (.int .i64 i)).run Try.prog w = .ok (.int .u8 (upv i)) w := by
  rw [run_index_string w 9 _ .i64 i (by kernel_rfl), dif_pos ⟨h0, by show i < 16; omega⟩]
  have hs : i = 0 ∨ i = 1 ∨ i = 2 ∨ i = 3 ∨ i = 4 ∨ i = 5 ∨ i = 6 ∨ i = 7 ∨ i = 8 ∨ i = 9 ∨ i = 10 ∨ i = 11 ∨ i = 12 ∨ i = 13 ∨ i = 14 ∨ i = 15 := by omega
  rcases hs with rfl | rfl | rfl | rfl | rfl | rfl | rfl | rfl | rfl | rfl | rfl | rfl | rfl | rfl | rfl | rfl <;> rfl

theorem lowv_fold (c : Int) (h : 0 ≤ hexv c) : lowv (hexv c) = foldv c := by
  unfold hexv at *
  unfold lowv foldv
  split at h
  · repeat' split
    all_goals omega
  · split at h
    · repeat' split
      all_goals omega
    · split at h
      · repeat' split
        all_goals omega
      · omega
theorem hexv_low (i : Int) (h0 : 0 ≤ i) (h1 : i ≤ 15) : hexv (lowv i) = i := by
  unfold lowv
  split
  · unfold hexv; rw [if_pos (by omega)]; omega
  · unfold hexv; rw [if_neg (by omega), if_pos (by omega)]; omega
theorem hexv_up (i : Int) (h0 : 0 ≤ i) (h1 : i ≤ 15) : hexv (upv i) = i := by
  unfold upv
  split
  · unfold hexv; rw [if_pos (by omega)]; omega
  · unfold hexv; rw [if_neg (by omega), if_neg (by omega), if_pos (by omega)]; omega
theorem lowv_range (i : Int) (h0 : 0 ≤ i) (h1 : i ≤ 15) : 0 ≤ lowv i ∧ lowv i ≤ 255 := by unfold lowv; split <;> omega
theorem upv_range (i : Int) (h0 : 0 ≤ i) (h1 : i ≤ 15) : 0 ≤ upv i ∧ upv i ≤ 255 := by unfold upv; split <;> omega
end Go.Proofs.Qxb6603102a

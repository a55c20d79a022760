/-
  THE STATEMENT 'Rows.FnHexValueMatchesDigitTableSaid'. The row's step is the tool's shell; the walk is ours.
-/
import Derived.Test.Qxb6603102aTab
import Derived.WalkSpells
import Derived.WalkLawsBesides
import Derived.Deep.RegionLaw
import Derived.Deep.RegionHeld
import Derived.WalkKit
import Derived.ProofKit
import Derived.OpenShut
import Derived.ShutString
namespace Go.Proofs.Qxb6603102a.fnHexValueMatchesDigitTable
open Go.ChangeShapes Go.WideShapes Go.ChangeAt Go.RowKit
open Go.ChangeMaps (open_string shut_string)
set_option linter.unusedVariables false      -- a walk need not use every 'w<i>' (that an integer argument fits its kind)

theorem own : ownKnob Try.prog.godebug = none := by kernel_rfl

/-- What the loop holds in 'want' ahead of its round k. -/
def seen (c : Int) (k : Nat) : Int := if 0 ≤ hexv c ∧ hexv c < k then hexv c else -1
theorem seen_zero (c : Int) : seen c 0 = -1 := by unfold seen; rw [if_neg (by omega)]
theorem seen_all (c : Int) : seen c 16 = hexv c := by
  unfold seen
  rcases hexv_range c with h | h
  · rw [if_neg (by omega), h]
  · rw [if_pos (by omega)]
theorem seen_hit (c : Int) (k : Nat) (hk : k < 16) (h : lowv k = c ∨ upv k = c) : seen c (k + 1) = k := by
  have e : hexv c = k := by
    rcases h with rfl | rfl
    · exact hexv_low k (by omega) (by omega)
    · exact hexv_up k (by omega) (by omega)
  unfold seen
  rw [e, if_pos (by omega)]
theorem digit_of (c : Int) (h : 0 ≤ hexv c) : lowv (hexv c) = c ∨ upv (hexv c) = c := by
  by_cases h1 : 48 ≤ c ∧ c ≤ 57
  · have e : hexv c = c - 48 := by unfold hexv; rw [if_pos h1]
    rw [e]
    unfold lowv
    rw [if_pos (by omega)]
    exact Or.inl (by omega)
  · by_cases h2 : 97 ≤ c ∧ c ≤ 102
    · have e : hexv c = c - 97 + 10 := by unfold hexv; rw [if_neg h1, if_pos h2]
      rw [e]
      unfold lowv
      rw [if_neg (by omega)]
      exact Or.inl (by omega)
    · by_cases h3 : 65 ≤ c ∧ c ≤ 70
      · have e : hexv c = c - 65 + 10 := by unfold hexv; rw [if_neg h1, if_neg h2, if_pos h3]
        rw [e]
        unfold upv
        rw [if_neg (c := c - 65 + 10 < 10) (by omega)]
        exact Or.inr (by omega)
      · have e : hexv c = -1 := by unfold hexv; rw [if_neg h1, if_neg h2, if_neg h3]
        omega
theorem seen_miss (c : Int) (k : Nat) (hL : lowv k ≠ c) (hU : upv k ≠ c) : seen c (k + 1) = seen c k := by
  have ne : hexv c ≠ k := by
    intro e
    have := digit_of c (by omega)
    rw [e] at this
    exact this.elim hL hU
  unfold seen
  by_cases h : 0 ≤ hexv c ∧ hexv c < k
  · rw [if_pos h, if_pos (by omega)]
  · rw [if_neg h, if_neg (by omega)]

/-! ### STEP 1: THE WALK: the Go text returns true. 'Grown w w'': the world has at most new blocks (Derived/RowKit3.lean). Part the cases AHEAD of 'go_enter' where a test parts the walk; take each callee by a contract of your own. -/
theorem walk (a0 : Int) (w0 : (Lit.int .u8 a0).wf = true) (w : World) :
    Calls Try.prog 3 #[.int .u8 a0] w fun e w' => e = .returned (.bool true) ∧ Grown w w' := by
  have hw : 0 ≤ a0 ∧ a0 ≤ 255 := by simp [Lit.wf, IntKind.min, IntKind.max, IntKind.signed, IntKind.bits] at w0; omega
  obtain ⟨h0, h1⟩ := hw
  go_enter Try.func3, Try.ntmps3
  go_wp2_with fail
  go_loop [3, 4] (fun want i => ∃ k : Nat, k ≤ 16 ∧ i = .int .i64 k ∧ want = .int .i64 (seen a0 k)) (fun _ i => (16 - intOf i).toNat)
  case atStart => exact ⟨0, by omega, rfl, by rw [seen_zero]⟩
  case round =>
    obtain ⟨k, hk, rfl, rfl⟩ := hrel
    by_cases hlt : k < 16
    · have hlt' : (k : Int) < 16 := by omega
      have hlo : ∀ wx : World, (Instr.index 9 (.string ⟨#[48, 49, 50, 51, 52, 53, 54, 55, 56, 57, 97, 98, 99, 100, 101, 102]⟩) (.int .i64 (k : Int))).run Try.prog wx = .ok (.int .u8 (lowv k)) wx := fun wx => index_low _ (by omega) (by omega) wx
      have hup : ∀ wx : World, (Instr.index 9 (.string ⟨#[48, 49, 50, 51, 52, 53, 54, 55, 56, 57, 65, 66, 67, 68, 69, 70]⟩) (.int .i64 (k : Int))).run Try.prog wx = .ok (.int .u8 (upv k)) wx := fun wx => index_up _ (by omega) (by omega) wx
      by_cases hL : lowv k = a0
      · have hs := seen_hit a0 k hlt (Or.inl hL)
        rw [hL] at hlo
        have HS : Hid (seen a0 (k + 1) = k) := hs
        clear hs hL
        go_wp2_with fail
        exact ⟨⟨k + 1, by omega, by go_num, by rw [HS.out]⟩, by simp [intOf]; omega⟩
      · by_cases hU : upv k = a0
        · have hs := seen_hit a0 k hlt (Or.inr hU)
          rw [hU] at hup
          have HS : Hid (seen a0 (k + 1) = k) := hs
          clear hs hU
          go_wp2_with fail
          exact ⟨⟨k + 1, by omega, by go_num, by rw [HS.out]⟩, by simp [intOf]; omega⟩
        · have HS : Hid (seen a0 (k + 1) = seen a0 k) := seen_miss a0 k hL hU
          have dL : decide (lowv k = a0) = false := decide_eq_false hL
          have dU : decide (upv k = a0) = false := decide_eq_false hU
          go_wp2_with fail
          · exact absurd (by assumption) (by simp [hL, hU])
          · exact ⟨⟨k + 1, by omega, by go_num, by rw [HS.out]⟩, by simp [intOf]; omega⟩
    · have hk16 : k = 16 := by omega
      subst hk16
      rw [seen_all]
      go_wp2_with fail
      refine (zzHex_any a0 h0 h1 _).mono ?_
      rintro e w' ⟨rfl, rfl⟩
      go_wp2_with fail
      go_ret
      exact ⟨rfl, by repeat (first | exact Grown.refl _ | apply Grown.drew | apply Grown.alloc)⟩

/-! ### THE ROW's STEP: WRITTEN OUT: LEAVE IT -/
set_option maxRecDepth 100000 in
theorem lifted (os : Os) (started : os.Started) (H : Type) (enc : TypeId × Value → H) :
    ReturnsInHanded {} Try.checked os 3 .any (Rows.fnHexValueMatchesDigitTableSpec.pre6 enc Try.prog Try.f3 Rows.fnHexValueMatchesDigitTableRow.domain false) (Rows.fnHexValueMatchesDigitTableSpec.post enc Try.prog Try.f3 false true false false) := by
  refine returnsInHanded_of_change (C := Try.checked) own started (by kernel_rfl) Try.func3
    (ChangeSpec.witness6 (enc := enc) (C := Try.checked) false ⟨#[], #[.int .u8 0], []⟩ 8 (by kernel_rfl) (by kernel_rfl) (by kernel_rfl) (by kernel_rfl)) ?_
  intro W base args ds gs before hval0 hW hcnd _
  have hval : ∀ (j : Nat) t v, Try.f3.params[j]? = some t → args[j]? = some v → Value.okWide Try.prog W .any base t v := hval0
  have hW' := hW
  obtain ⟨p, q, hA0, hV, rfl, hfz, hnd⟩ := hW
  have hA : DataW.TrodAll enc Try.prog W 0 (fun _ => true) true Try.f3.params.toList args.toList ds p := hA0
  rw [Try.params3] at hA hval
  obtain ⟨v0, vs0, d0, ds0, p0, q0, hargs, rfl, rfl, h0, r0⟩ := trodAll_cons hA
  obtain ⟨rfl, rfl, rfl⟩ := trodAll_nil r0
  obtain rfl : args = #[v0] := by cases args; simp_all
  obtain ⟨rfl, rfl⟩ := trodVars_none hV
  obtain ⟨a0, rfl, rfl, rfl, w0⟩ := open_int Try.underlying5 (hval 0 5 v0 rfl rfl) h0
  clear hA0 hval0
  simp only [List.append_nil] at hW'
  refine (walk a0 w0 W).mono fun e W' ⟨he, hg⟩ => ?_
  subst he
  exact ⟨_, rfl, post_of_same (pa := []) (pv := []) hW' (fun _ _ _ => (trodAll_cons_mk (shut_bool Try.underlying4 _) trodAll_mk0)) (fun sp _ => (trodAll_cons_mk (shut_int Try.underlying5 w0) trodAll_mk0)) (fun _ _ => rfl) rfl
    (hg.frame _) hg.2.1 (ok_one (by kernel_rfl) rfl (okWide_bool_mk Try.underlying4 _))⟩

theorem over : Rows.fnHexValueMatchesDigitTableRow.holds Try.pinned (OpenSpec.ofChange Rows.fnHexValueMatchesDigitTableSpec) :=
  OpenClaim.holds_of_wide 3 Try.f3 rfl rfl rfl rfl rfl rfl rfl ⟨rfl, rfl, rfl, rfl, rfl⟩ rfl rfl rfl rfl rfl (by kernel_rfl) Try.func3 (by kernel_rfl)
    (of_decide_eq_true (by kernel_rfl)) (by unfold Func.isWrapper; first | (rw [if_pos (by decide +kernel)]; kernel_rfl) | (rw [if_neg (by decide +kernel)]; exact ⟨rfl, rfl⟩))
    (fun os started H enc _ => lifted os started H enc)

end Go.Proofs.Qxb6603102a.fnHexValueMatchesDigitTable

namespace Go.Proofs.Qxb6603102a
/-- THE STATEMENT. -/
theorem fnHexValueMatchesDigitTable_proved : Rows.FnHexValueMatchesDigitTableSaid := fnHexValueMatchesDigitTable.over
end Go.Proofs.Qxb6603102a

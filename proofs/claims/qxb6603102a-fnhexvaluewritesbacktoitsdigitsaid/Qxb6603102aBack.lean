/-
  THE STATEMENT 'Rows.FnHexValueWritesBackToItsDigitSaid'. The row's step is the tool's shell; the walk is ours.
-/
import Derived.Test.Qxb6603102aTab
import Derived.WalkSpells
import Derived.WalkLawsBesides
import Derived.Deep.RegionLaw
import Derived.Deep.RegionHeld
import Derived.WalkKit
import Derived.ProofKit
import Derived.OpenShut
import Derived.ShutString
namespace Go.Proofs.Qxb6603102a.fnHexValueWritesBackToItsDigit
open Go.ChangeShapes Go.WideShapes Go.ChangeAt Go.RowKit
open Go.ChangeMaps (open_string shut_string)
set_option linter.unusedVariables false      -- a walk need not use every 'w<i>' (that an integer argument fits its kind)

theorem own : ownKnob Try.prog.godebug = none := by kernel_rfl

/-! ### STEP 1: THE WALK: the Go text returns true. 'Grown w w'': the world has at most new blocks (Derived/RowKit3.lean). Part the cases AHEAD of 'go_enter' where a test parts the walk; take each callee by a contract of your own. -/
theorem walk (a0 : Int) (w0 : (Lit.int .u8 a0).wf = true) (w : World) :
    Calls Try.prog 4 #[.int .u8 a0] w fun e w' => e = .returned (.bool true) ∧ Grown w w' := by
  have hw : 0 ≤ a0 ∧ a0 ≤ 255 := by simp [Lit.wf, IntKind.min, IntKind.max, IntKind.signed, IntKind.bits] at w0; omega
  obtain ⟨h0, h1⟩ := hw
  rcases hexv_range a0 with hm | hr
  · go_enter Try.func4, Try.ntmps4
    go_wp2_with fail
    refine (zzHex_any a0 h0 h1 _).mono ?_
    rintro e w' ⟨rfl, rfl⟩
    rw [hm]
    go_wp2_with fail
    go_ret
    exact ⟨rfl, Grown.refl _⟩
  · have hlo : ∀ wx : World, (Instr.index 9 (.string ⟨#[48, 49, 50, 51, 52, 53, 54, 55, 56, 57, 97, 98, 99, 100, 101, 102]⟩) (.int .i64 (hexv a0))).run Try.prog wx = .ok (.int .u8 (foldv a0)) wx := fun wx => by rw [← lowv_fold a0 hr.1]; exact index_low _ hr.1 hr.2 wx
    have hup : ∀ wx : World, (Instr.index 9 (.string ⟨#[48, 49, 50, 51, 52, 53, 54, 55, 56, 57, 65, 66, 67, 68, 69, 70]⟩) (.int .i64 (hexv a0))).run Try.prog wx = .ok (.int .u8 (upv (hexv a0))) wx := fun wx => index_up _ hr.1 hr.2 wx
    have HF : Hid (hexv (foldv a0) = hexv a0) := by
      show hexv (foldv a0) = hexv a0
      rw [← lowv_fold a0 hr.1]
      exact hexv_low _ hr.1 hr.2
    have HU : Hid (hexv (upv (hexv a0)) = hexv a0) := hexv_up _ hr.1 hr.2
    have hfr : 0 ≤ foldv a0 ∧ foldv a0 ≤ 255 := by rw [← lowv_fold a0 hr.1]; exact lowv_range _ hr.1 hr.2
    have hur := upv_range _ hr.1 hr.2
    go_enter Try.func4, Try.ntmps4
    go_wp2_with fail
    refine (zzHex_any a0 h0 h1 _).mono ?_
    rintro e w' ⟨rfl, rfl⟩
    go_wp2_with fail
    go_region_with (go_at_call 7; refine (fold_any a0 h0 h1 _).mono ?_; rintro e w' ⟨rfl, rfl⟩)
    all_goals
      go_wp2_with fail
      refine (zzHex_any (foldv a0) hfr.1 hfr.2 _).mono ?_
      rintro e w' ⟨rfl, rfl⟩
      rw [HF.out]
      go_wp2_with fail
      refine (zzHex_any (upv (hexv a0)) hur.1 hur.2 _).mono ?_
      rintro e w' ⟨rfl, rfl⟩
      rw [HU.out]
      go_wp2_with fail
      go_ret
      exact ⟨rfl, by repeat (first | exact Grown.refl _ | apply Grown.drew | apply Grown.alloc)⟩

/-! ### THE ROW's STEP: WRITTEN OUT: LEAVE IT -/
set_option maxRecDepth 100000 in
theorem lifted (os : Os) (started : os.Started) (H : Type) (enc : TypeId × Value → H) :
    ReturnsInHanded {} Try.checked os 4 .any (Rows.fnHexValueWritesBackToItsDigitSpec.pre6 enc Try.prog Try.f4 Rows.fnHexValueWritesBackToItsDigitRow.domain false) (Rows.fnHexValueWritesBackToItsDigitSpec.post enc Try.prog Try.f4 false true false false) := by
  refine returnsInHanded_of_change (C := Try.checked) own started (by kernel_rfl) Try.func4
    (ChangeSpec.witness6 (enc := enc) (C := Try.checked) false ⟨#[], #[.int .u8 0], []⟩ 8 (by kernel_rfl) (by kernel_rfl) (by kernel_rfl) (by kernel_rfl)) ?_
  intro W base args ds gs before hval0 hW hcnd _
  have hval : ∀ (j : Nat) t v, Try.f4.params[j]? = some t → args[j]? = some v → Value.okWide Try.prog W .any base t v := hval0
  have hW' := hW
  obtain ⟨p, q, hA0, hV, rfl, hfz, hnd⟩ := hW
  have hA : DataW.TrodAll enc Try.prog W 0 (fun _ => true) true Try.f4.params.toList args.toList ds p := hA0
  rw [Try.params4] at hA hval
  obtain ⟨v0, vs0, d0, ds0, p0, q0, hargs, rfl, rfl, h0, r0⟩ := trodAll_cons hA
  obtain ⟨rfl, rfl, rfl⟩ := trodAll_nil r0
  obtain rfl : args = #[v0] := by cases args; simp_all
  obtain ⟨rfl, rfl⟩ := trodVars_none hV
  obtain ⟨a0, rfl, rfl, rfl, w0⟩ := open_int Try.underlying5 (hval 0 5 v0 rfl rfl) h0
  clear hA0 hval0
  simp only [List.append_nil] at hW'
  refine (walk a0 w0 W).mono fun e W' ⟨he, hg⟩ => ?_
  subst he
  exact ⟨_, rfl, post_of_same (pa := []) (pv := []) hW' (fun _ _ _ => (trodAll_cons_mk (shut_bool Try.underlying4 _) trodAll_mk0)) (fun sp _ => (trodAll_cons_mk (shut_int Try.underlying5 w0) trodAll_mk0)) (fun _ _ => rfl) rfl
    (hg.frame _) hg.2.1 (ok_one (by kernel_rfl) rfl (okWide_bool_mk Try.underlying4 _))⟩

theorem over : Rows.fnHexValueWritesBackToItsDigitRow.holds Try.pinned (OpenSpec.ofChange Rows.fnHexValueWritesBackToItsDigitSpec) :=
  OpenClaim.holds_of_wide 4 Try.f4 rfl rfl rfl rfl rfl rfl rfl ⟨rfl, rfl, rfl, rfl, rfl⟩ rfl rfl rfl rfl rfl (by kernel_rfl) Try.func4 (by kernel_rfl)
    (of_decide_eq_true (by kernel_rfl)) (by unfold Func.isWrapper; first | (rw [if_pos (by decide +kernel)]; kernel_rfl) | (rw [if_neg (by decide +kernel)]; exact ⟨rfl, rfl⟩))
    (fun os started H enc _ => lifted os started H enc)

end Go.Proofs.Qxb6603102a.fnHexValueWritesBackToItsDigit

namespace Go.Proofs.Qxb6603102a
/-- THE STATEMENT. -/
theorem fnHexValueWritesBackToItsDigit_proved : Rows.FnHexValueWritesBackToItsDigitSaid := fnHexValueWritesBackToItsDigit.over
end Go.Proofs.Qxb6603102a

/-
  THE STATEMENT 'Rows.FnTimesXAgreesWithTimesByXSaid'. The row's step follows the tool's shell; the walk is ours.
-/
import Derived.Test.Qxb6000123aMul
import Derived.Test.Qxb6000123aWords
import Derived.ProofKit
import Derived.OpenShut
import Derived.ShutString
namespace Go.Proofs.Qxb6000123a.fnTimesXAgreesWithTimesByX
open Go.ChangeShapes Go.WideShapes Go.ChangeAt Go.RowKit
open Go.ChangeMaps (open_string shut_string)
set_option linter.unusedVariables false      -- a walk need not use every 'w<i>' (that an integer argument fits its kind)

theorem own : ownKnob Try.prog.godebug = none := by kernel_rfl

/-- A number of kind uint64 is a natural number below 2^64. -/
theorem nat_of {a : Int} (h : (Lit.int .u64 a).wf = true) : ∃ n : Nat, a = n ∧ n < 18446744073709551616 := by
  simp [Lit.wf, IntKind.min, IntKind.max, IntKind.signed, IntKind.bits] at h
  exact ⟨a.toNat, by omega, by omega⟩
theorem shr_zero {p n : Nat} (h : p < 2 ^ n) : (p : Int) / 2 ^ n = 0 := by
  rw [show ((p : Int) / 2 ^ n) = ((p / 2 ^ n : Nat) : Int) by norm_cast, Nat.div_eq_of_lt h]
  rfl
theorem shr_pos {p n : Nat} (h : ¬ p < 2 ^ n) : ((p : Int) / 2 ^ n != 0) = true := by
  have e : (p : Int) / 2 ^ n ≠ 0 := by
    rw [show ((p : Int) / 2 ^ n) = ((p / 2 ^ n : Nat) : Int) by norm_cast]
    have : 0 < p / 2 ^ n := Nat.div_pos (by omega) (Nat.two_pow_pos n)
    generalize p / 2 ^ n = z at this ⊢
    omega
  simpa using e

theorem walk (a0 : Int) (a1 : Int) (a2 : Int) (w0 : (Lit.int .u64 a0).wf = true) (w1 : (Lit.int .u64 a1).wf = true) (w2 : (Lit.int .u64 a2).wf = true) (w : World) :
    Calls Try.prog 4 #[.int .u64 a0, .int .u64 a1, .int .u64 a2] w fun e w' => e = .returned (.bool true) ∧ Below w.heap.size w w' := by
  obtain ⟨n, rfl, hn0⟩ := nat_of w0
  obtain ⟨p, rfl, hp0⟩ := nat_of w1
  obtain ⟨v, rfl, hv0⟩ := nat_of w2
  by_cases hn : n < 1
  · go_enter Try.func4, Try.ntmps4
    go_wp2_with fail
    go_ret
    exact ⟨rfl, Below.refl _ _⟩
  by_cases hn' : 64 < n
  · go_enter Try.func4, Try.ntmps4
    go_wp2_with fail
    go_ret
    exact ⟨rfl, Below.refl _ _⟩
  by_cases hp : p < 2 ^ n
  · by_cases hv : v < 2 ^ n
    · have zp := shr_zero hp
      have zv := shr_zero hv
      have HP : Hid (p < 2 ^ n) := hp
      have HV : Hid (v < 2 ^ n) := hv
      clear hp hv
      have h1 : 1 ≤ n := by omega
      have h2 : n ≤ 64 := by omega
      clear hn hn' w0 w1 w2
      have HL : Hid (times n p (rev (xtime n (rev p n) 1) n) v = tX p v) := times_x n p v h1 h2 HP.out HV.out
      have g64 := lt_of_pow (rev_lt p n) h2
      have x64 := lt_of_pow (xtime_lt n (rev p n) 1 (rev_lt p n)) h2
      have y64 := lt_of_pow (rev_lt (xtime n (rev p n) 1) n) h2
      go_enter Try.func4, Try.ntmps4
      go_wp2_with fail
      refine (rev_any p n hp0 h1 h2 _).mono ?_
      rintro e w2 ⟨rfl, rfl⟩
      go_wp2_with fail
      refine (xtime_any 1 n (rev p n) (by omega) g64 h1 h2 _).mono ?_
      rintro e w2 ⟨rfl, rfl⟩
      go_wp2_with fail
      refine (rev_any (xtime n (rev p n) 1) n x64 h1 h2 _).mono ?_
      rintro e w2 ⟨rfl, rfl⟩
      go_wp2_with fail
      refine (zzTimes_any n p _ v h1 h2 HP.out HV.out y64 _).mono ?_
      rintro e w3 ⟨rfl, b3⟩
      have B3 : Hid (Below w2.heap.size w2 w3) := b3
      have hs := b3.size
      clear b3
      rw [HL.out]
      go_wp2_with fail
      refine (zzTimesX_any n p v hp0 hv0 _).mono ?_
      rintro e w4 ⟨rfl, b4⟩
      have B4 : Hid (Below w3.heap.size w3 w4) := b4
      clear b4
      go_wp2_with fail
      go_ret
      exact ⟨rfl, B3.out.trans (B4.out.mono hs)⟩
    · have zp := shr_zero hp
      have zv := shr_pos hv
      clear hp hv
      go_enter Try.func4, Try.ntmps4
      go_wp2_with fail
      go_ret
      exact ⟨rfl, Below.refl _ _⟩
  · have zp := shr_pos hp
    clear hp
    go_enter Try.func4, Try.ntmps4
    go_wp2_with fail
    go_ret
    exact ⟨rfl, Below.refl _ _⟩

/-! ### THE ROW's STEP: WRITTEN OUT: LEAVE IT -/
set_option maxRecDepth 100000 in
theorem lifted (os : Os) (started : os.Started) (H : Type) (enc : TypeId × Value → H) :
    ReturnsInHanded {} Try.checked os 4 .any (Rows.fnTimesXAgreesWithTimesByXSpec.pre6 enc Try.prog Try.f4 Rows.fnTimesXAgreesWithTimesByXRow.domain false) (Rows.fnTimesXAgreesWithTimesByXSpec.post enc Try.prog Try.f4 false true false false) := by
  refine returnsInHanded_of_change (C := Try.checked) own started (by kernel_rfl) Try.func4
    (ChangeSpec.witness6 (enc := enc) (C := Try.checked) false ⟨#[], #[.int .u64 0, .int .u64 0, .int .u64 0], []⟩ 8 (by kernel_rfl) (by kernel_rfl) (by kernel_rfl) (by kernel_rfl)) ?_
  intro W base args ds gs before hval0 hW hcnd _
  have hval : ∀ (j : Nat) t v, Try.f4.params[j]? = some t → args[j]? = some v → Value.okWide Try.prog W .any base t v := hval0
  have hW' := hW
  obtain ⟨p, q, hA0, hV, rfl, hfz, hnd⟩ := hW
  have hA : DataW.TrodAll enc Try.prog W 0 (fun _ => true) true Try.f4.params.toList args.toList ds p := hA0
  rw [Try.params4] at hA hval
  obtain ⟨v0, vs0, d0, ds0, p0, q0, hargs, rfl, rfl, h0, r0⟩ := trodAll_cons hA
  obtain ⟨v1, vs1, d1, ds1, p1, q1, rfl, rfl, rfl, h1, r1⟩ := trodAll_cons r0
  obtain ⟨v2, vs2, d2, ds2, p2, q2, rfl, rfl, rfl, h2, r2⟩ := trodAll_cons r1
  obtain ⟨rfl, rfl, rfl⟩ := trodAll_nil r2
  obtain rfl : args = #[v0, v1, v2] := by cases args; simp_all
  obtain ⟨rfl, rfl⟩ := trodVars_none hV
  obtain ⟨a0, rfl, rfl, rfl, w0⟩ := open_int Try.underlying22 (hval 0 22 v0 rfl rfl) h0
  obtain ⟨a1, rfl, rfl, rfl, w1⟩ := open_int Try.underlying23 (hval 1 23 v1 rfl rfl) h1
  obtain ⟨a2, rfl, rfl, rfl, w2⟩ := open_int Try.underlying23 (hval 2 23 v2 rfl rfl) h2
  clear hA0 hval0
  simp only [List.append_nil] at hW'
  refine (walk a0 a1 a2 w0 w1 w2 W).mono fun e W' ⟨he, hg⟩ => ?_
  subst he
  exact ⟨_, rfl, _, _, _, [], _, [], hW', trodAll_mk1 (shut_bool Try.underlying4 _), (trodAll_cons_mk (shut_int Try.underlying22 w0) (trodAll_cons_mk (shut_int Try.underlying23 w1) (trodAll_cons_mk (shut_int Try.underlying23 w2) trodAll_mk0))), rfl, hg.frame _, fun h => by cases h⟩

theorem over : Rows.fnTimesXAgreesWithTimesByXRow.holds Try.pinned (OpenSpec.ofChange Rows.fnTimesXAgreesWithTimesByXSpec) :=
  OpenClaim.holds_of_wide 4 Try.f4 rfl rfl rfl rfl rfl rfl rfl ⟨rfl, rfl, rfl, rfl, rfl⟩ rfl rfl rfl rfl rfl (by kernel_rfl) Try.func4 words.closed4
    (of_decide_eq_true (by kernel_rfl)) (by unfold Func.isWrapper; first | (rw [if_pos (by decide +kernel)]; kernel_rfl) | (rw [if_neg (by decide +kernel)]; exact ⟨rfl, rfl⟩))
    (fun os started H enc _ => lifted os started H enc)

end Go.Proofs.Qxb6000123a.fnTimesXAgreesWithTimesByX

namespace Go.Proofs.Qxb6000123a
/-- THE STATEMENT. -/
theorem fnTimesXAgreesWithTimesByX_proved : Rows.FnTimesXAgreesWithTimesByXSaid := fnTimesXAgreesWithTimesByX.over
end Go.Proofs.Qxb6000123a

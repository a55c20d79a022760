/-
  THE STATEMENT 'Rows.FnMergeIsTreapOfConcatenationSaid'.
-/
import Derived.Test.Qxb6602551aTreap
import Derived.ProofKit
import Derived.OpenShut
import Derived.ChangeOld
import Derived.Deep.Slices
import Derived.Deep.Strs
namespace Go.Proofs.Qxb6602551a.treapProof
open Go.ChangeShapes Go.WideShapes Go.ChangeAt Go.RowKit Go.Deep
set_option linter.unusedVariables false

theorem own : ownKnob Try.prog.godebug = none := by kernel_rfl
theorem laidOut : laidOutB Try.prog = true := by kernel_rfl
theorem cells41 : Try.prog.cellsOf 41 = 2 := by kernel_rfl
theorem cells3 : Try.prog.cellsOf 3 = 1 := by kernel_rfl
theorem cells39 : Try.prog.cellsOf 39 = 1 := by kernel_rfl

/-- What a slice of MergeNode that came in holds. -/
theorem src2_of {H : Type} {enc : TypeId × Value → H} {W : World} {fuel : Nat} {a : Option Addr} {l c : Nat} {x : DataW H × List MemPlace}
    (h : DataW.trod enc Try.prog W 0 (fun _ => true) true fuel 35 [.slice a l c] = some x) : l ≤ maxLen ∧ ∃ A P, Src2 W a l A P := by
  rcases open_slice Try.underlying35 h with ⟨hcs, _⟩ | ⟨ad, len, cap, m, n, D, Pl, hcs, hb, hl, hm, hmm, rfl, hx⟩
  · simp at hcs
    obtain ⟨_, rfl, _⟩ := hcs
    exact ⟨Nat.zero_le _, fun _ => 0, fun _ => 0, Or.inl rfl⟩
  · simp at hcs
    obtain ⟨rfl, rfl, rfl⟩ := hcs
    refine ⟨by omega, ?_⟩
    simp only [if_true] at hmm
    subst hmm
    have each : ∀ i, i < l → ∃ q : Int × Int, W.cell? (ad.add (i * 2)) = some (.int .i64 q.1) ∧ W.cell? (ad.add (i * 2 + 1)) = some (.int .u64 q.2) := by
      intro i hi
      obtain ⟨cs', h1, h2⟩ := hx i (by omega)
      rw [cells41] at h1
      obtain ⟨_, hlen, hcell⟩ := World.cells?_some h1
      obtain ⟨y0, y1, k, _, _, g0, g1⟩ := trod_struct2 Try.underlying41 h2
      match cs', hlen with
      | [v0, v1], _ =>
        simp [cells3, cells39] at g0 g1
        obtain ⟨z0, e0, _, _⟩ := DataW.trod_int Try.underlying3 g0
        obtain ⟨z1, e1, _, _⟩ := DataW.trod_int Try.underlying39 g1
        simp at e0 e1
        have k0 := hcell 0 (by omega)
        have k1 := hcell 1 (by omega)
        rw [add_add] at k0 k1
        refine ⟨(z0, z1), ?_, ?_⟩
        · simpa [e0] using k0
        · simpa [e1] using k1
    obtain ⟨q, hq⟩ := choose_lt each
    refine ⟨fun i => (q i).1, fun i => (q i).2, ?_⟩
    by_cases h0 : l = 0
    · exact Or.inl h0
    · have hspot : ad.spot = none := by
        have := World.cell?_spot (hq 0 (by omega)).1
        simpa [Addr.add] using this
      obtain ⟨b, off, spot⟩ := ad
      subst hspot
      refine Or.inr ⟨b, off, rfl, ?_, fun i hi => ?_⟩
      · have := World.block_lt_of_cell? W _ (hq 0 (by omega)).1
        simpa [Addr.add] using this
      · obtain ⟨e0, e1⟩ := hq i hi
        rw [add_plain] at e0 e1
        exact ⟨e0, e1⟩

set_option maxRecDepth 100000 in
theorem lifted (os : Os) (started : os.Started) (H : Type) (enc : TypeId × Value → H) :
    ReturnsInHanded {} Try.checked os 6 .any (Rows.fnMergeIsTreapOfConcatenationSpec.pre6 enc Try.prog Try.f6 Rows.fnMergeIsTreapOfConcatenationRow.domain false) (Rows.fnMergeIsTreapOfConcatenationSpec.post enc Try.prog Try.f6 false true false false) := by
  refine returnsInHanded_of_change (C := Try.checked) own started (by kernel_rfl) Try.func6
    (ChangeSpec.witness6 (enc := enc) (C := Try.checked) false ⟨#[], #[.slice none 0 0, .slice none 0 0], []⟩ 8 (by kernel_rfl) (by kernel_rfl) (by kernel_rfl) (by kernel_rfl)) ?_
  intro W base args ds gs before hval0 hW hcnd _
  have hval : ∀ (j : Nat) t v, Try.f6.params[j]? = some t → args[j]? = some v → Value.okWide Try.prog W .any base t v := hval0
  have hW' := hW
  obtain ⟨p, q, hA0, hV, rfl, hfz, hnd⟩ := hW
  have hA : DataW.TrodAll enc Try.prog W 0 (fun _ => true) true Try.f6.params.toList args.toList ds p := hA0
  rw [Try.params6] at hA hval
  obtain ⟨v0, vs0, d0, ds0, p0, q0, hargs, rfl, rfl, h0, r0⟩ := trodAll_cons hA
  obtain ⟨v1, vs1, d1, ds1, p1, q1, rfl, rfl, rfl, h1, r1⟩ := trodAll_cons r0
  obtain ⟨rfl, rfl, rfl⟩ := trodAll_nil r1
  obtain rfl : args = #[v0, v1] := by cases args; simp_all
  obtain ⟨rfl, rfl⟩ := trodVars_none hV
  obtain ⟨a0, len0, cap0, rfl⟩ := okWide_slice Try.underlying35 (hval 0 35 v0 rfl rfl)
  obtain ⟨a1, len1, cap1, rfl⟩ := okWide_slice Try.underlying35 (hval 1 35 v1 rfl rfl)
  have k0 := h0
  have k1 := h1
  have lt0 : ∀ x ∈ p0, x.block < W.heap.size := by obtain ⟨m, hm⟩ := k0; exact DataW.trod_lt m _ _ _ hm
  have lt1 : ∀ x ∈ p1, x.block < W.heap.size := by obtain ⟨m, hm⟩ := k1; exact DataW.trod_lt m _ _ _ hm
  obtain ⟨m0, A0, P0, s0⟩ : len0 ≤ maxLen ∧ ∃ A P, Src2 W a0 len0 A P := by
    obtain ⟨fuel, hf⟩ := h0
    exact src2_of (by simpa [Value.cells] using hf)
  obtain ⟨m1, A1, P1, s1⟩ : len1 ≤ maxLen ∧ ∃ A P, Src2 W a1 len1 A P := by
    obtain ⟨fuel, hf⟩ := h1
    exact src2_of (by simpa [Value.cells] using hf)
  clear hA0 hval0
  refine (treap_walk a0 a1 len0 cap0 len1 cap1 A0 P0 A1 P1 W m0 m1 s0 s1).mono fun e W' ⟨he, bel⟩ => ?_
  subst he
  exact ⟨_, rfl, _, _, _, [], _, [], hW', trodAll_mk1 (shut_bool Try.underlying4 _), (trodAll_cons_mk (Below.trod laidOut (by kernel_rfl) (of_decide_eq_true (by kernel_rfl)) k0 bel lt0) (trodAll_cons_mk (Below.trod laidOut (by kernel_rfl) (of_decide_eq_true (by kernel_rfl)) k1 bel lt1) trodAll_mk0)), rfl, bel.frame _, fun h => by cases h⟩

theorem over : Rows.fnMergeIsTreapOfConcatenationRow.holds Try.pinned (OpenSpec.ofChange Rows.fnMergeIsTreapOfConcatenationSpec) :=
  OpenClaim.holds_of_wide 6 Try.f6 rfl rfl rfl rfl rfl rfl rfl ⟨rfl, rfl, rfl, rfl, rfl⟩ rfl rfl rfl rfl rfl (by kernel_rfl) Try.func6 (by kernel_rfl)
    (of_decide_eq_true (by kernel_rfl)) (by unfold Func.isWrapper; first | (rw [if_pos (by decide +kernel)]; kernel_rfl) | (rw [if_neg (by decide +kernel)]; exact ⟨rfl, rfl⟩))
    (fun os started H enc _ => lifted os started H enc)

end Go.Proofs.Qxb6602551a.treapProof

namespace Go.Proofs.Qxb6602551a
/-- THE STATEMENT. -/
theorem fnMergeIsTreapOfConcatenation_proved : Rows.FnMergeIsTreapOfConcatenationSaid := treapProof.over
end Go.Proofs.Qxb6602551a

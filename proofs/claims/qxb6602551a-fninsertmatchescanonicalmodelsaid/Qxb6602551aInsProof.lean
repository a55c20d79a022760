/-
  THE STATEMENT 'Rows.FnInsertMatchesCanonicalModelSaid'.
-/
import Derived.Test.Qxb6602551aLaw3
import Derived.ProofKit
import Derived.OpenShut
import Derived.ChangeOld
import Derived.ChangeSlices
import Derived.Deep.Slices
import Derived.Deep.Strs
namespace Go.Proofs.Qxb6602551a.insProof
open Go.ChangeShapes Go.WideShapes Go.ChangeAt Go.RowKit Go.Deep
set_option linter.unusedVariables false

theorem own : ownKnob Try.prog.godebug = none := by kernel_rfl
theorem laidOut : laidOutB Try.prog = true := by kernel_rfl
theorem cells56 : Try.prog.cellsOf 56 = 3 := by kernel_rfl
theorem cells3 : Try.prog.cellsOf 3 = 1 := by kernel_rfl
theorem cells5 : Try.prog.cellsOf 5 = 1 := by kernel_rfl
theorem cells23 : Try.prog.cellsOf 23 = 1 := by kernel_rfl

/-- What a slice of bytes that came in holds. -/
theorem txt_of {H : Type} {enc : TypeId × Value → H} {W : World} {fuel : Nat} {v : Value} {x : DataW H × List MemPlace}
    (h : DataW.trod enc Try.prog W 0 (fun _ => true) true fuel 23 [v] = some x) :
    v = .slice none 0 0 ∨ ∃ (ad : Addr) (t : List Int) (c : Nat), v = .slice (some ad) t.length c ∧ t.length ≤ maxLen ∧ TxtAt (fun _ => True) W (some ad) t := by
  rcases open_ints Try.underlying23 Try.underlying5 cells5 h with ⟨hcs, _⟩ | ⟨ad, len, cap, zs, hcs, hb, hl, hm, hz, hx, hcell, hwf⟩
  · simp at hcs
    exact Or.inl hcs
  · simp at hcs
    simp only [if_true] at hz
    refine Or.inr ⟨ad, zs.take len, cap, ?_, ?_, ?_⟩
    · rw [hcs, List.length_take, hz, Nat.min_eq_left hl]
    · rw [List.length_take]
      omega
    · intro i u hu
      have hi : i < len := by
        have := (List.getElem?_eq_some_iff.1 hu).1
        rw [List.length_take] at this
        omega
      have hk := hcell i (by omega)
      rw [List.getElem?_take_of_lt hi] at hu
      have hk' : W.cell? (ad.add i) = some (.int .u8 u) := by
        rw [hk, List.getD_eq_getElem?_getD, hu]
        rfl
      have hspot : ad.spot = none := by
        have := World.cell?_spot (hcell 0 (by omega))
        simpa [Addr.add] using this
      obtain ⟨b, off, spot⟩ := ad
      subst hspot
      refine ⟨b, off, rfl, trivial, ?_⟩
      rw [add_plain] at hk'
      exact hk'

/-- What a slice of parts that came in holds. -/
theorem parts_of {H : Type} {enc : TypeId × Value → H} {W : World} {fuel : Nat} {v : Value} {x : DataW H × List MemPlace}
    (h : DataW.trod enc Try.prog W 0 (fun _ => true) true fuel 22 [v] = some x) :
    ∃ (a : Option Addr) (L : List Pt) (c : Nat), v = .slice a L.length c ∧ L.length ≤ maxLen ∧ PartsAt (fun _ => True) (fun _ => True) W a L ∧
      (∀ (i : Nat) (p : Pt), L[i]? = some p → p.2.1 ≤ 9223372036854775807) ∧ (∀ (i : Nat) (p : Pt), L[i]? = some p → p.2.2.length ≤ maxLen) := by
  rcases open_slice Try.underlying22 h with ⟨hcs, _⟩ | ⟨ad, l, cap, m, n, D, Pl, hcs, hb, hl, hm, hmm, rfl, hx⟩
  · simp at hcs
    exact ⟨none, [], 0, hcs, Nat.zero_le _, fun i p h => by simp at h, fun i p h => by simp at h, fun i p h => by simp at h⟩
  · simp at hcs
    simp only [if_true] at hmm
    subst hmm
    have each : ∀ i, i < l → ∃ q : Pt, q.2.1 ≤ 9223372036854775807 ∧ q.2.2.length ≤ maxLen ∧ W.cell? (ad.add (i * 3)) = some (.int .i64 q.1) ∧ W.cell? (ad.add (i * 3 + 1)) = some (.int .i64 q.2.1) ∧
        ∃ ta tc, W.cell? (ad.add (i * 3 + 2)) = some (.slice ta q.2.2.length tc) ∧ TxtAt (fun _ => True) W ta q.2.2 := by
      intro i hi
      obtain ⟨cs', h1, h2⟩ := hx i (by omega)
      rw [cells56] at h1
      obtain ⟨_, hlen, hcell⟩ := World.cells?_some h1
      obtain ⟨y0, y1, y2, k, _, _, g0, g1, g2⟩ := trod_struct3 Try.underlying56 h2
      match cs', hlen with
      | [v0, v1, v2], _ =>
        simp [cells3, cells23] at g0 g1 g2
        obtain ⟨z0, e0, _, w0⟩ := DataW.trod_int Try.underlying3 g0
        obtain ⟨z1, e1, _, w1⟩ := DataW.trod_int Try.underlying3 g1
        simp at e0 e1
        have k0 := hcell 0 (by omega)
        have k1 := hcell 1 (by omega)
        have k2 := hcell 2 (by omega)
        rw [add_add] at k0 k1 k2
        rcases txt_of g2 with e2 | ⟨ta, t, tc, e2, ht1, ht2⟩
        · refine ⟨(z0, z1, []), ?_, Nat.zero_le _, ?_, ?_, none, 0, ?_, fun i u h => by simp at h⟩
          · simp [Lit.wf] at w1
            simp; omega
          · simpa [e0] using k0
          · simpa [e1] using k1
          · simpa [e2] using k2
        · refine ⟨(z0, z1, t), ?_, ht1, ?_, ?_, some ta, tc, ?_, ht2⟩
          · simp [Lit.wf] at w1
            simp; omega
          · simpa [e0] using k0
          · simpa [e1] using k1
          · simpa [e2] using k2
    obtain ⟨q, hq⟩ := choose_lt each
    have hlen : ((List.range l).map q).length = l := by simp
    have hget : ∀ (i : Nat) (p : Pt), ((List.range l).map q)[i]? = some p → i < l ∧ p = q i := by
      intro i p h
      have hi := (List.getElem?_eq_some_iff.1 h).1
      rw [hlen] at hi
      refine ⟨hi, ?_⟩
      simp [hi] at h
      exact h.symm
    refine ⟨some ad, (List.range l).map q, m, by rw [hlen]; exact hcs, by rw [hlen]; omega, ?_, ?_, ?_⟩
    · intro i p hp
      obtain ⟨hi, rfl⟩ := hget i p hp
      obtain ⟨_, _, c0, c1, ta, tc, c2, ht⟩ := hq i hi
      have hspot : ad.spot = none := by
        have := World.cell?_spot (hq 0 (by omega)).2.2.1
        simpa [Addr.add] using this
      obtain ⟨b, off, spot⟩ := ad
      subst hspot
      rw [add_plain] at c0 c1 c2
      exact ⟨b, off, ta, tc, rfl, trivial, c0, c1, c2, ht⟩
    · intro i p hp
      obtain ⟨hi, rfl⟩ := hget i p hp
      exact (hq i hi).1
    · intro i p hp
      obtain ⟨hi, rfl⟩ := hget i p hp
      exact (hq i hi).2.1

set_option maxRecDepth 100000 in
theorem lifted (os : Os) (started : os.Started) (H : Type) (enc : TypeId × Value → H) :
    ReturnsInHanded {} Try.checked os 3 .any (Rows.fnInsertMatchesCanonicalModelSpec.pre6 enc Try.prog Try.f3 Rows.fnInsertMatchesCanonicalModelRow.domain false) (Rows.fnInsertMatchesCanonicalModelSpec.post enc Try.prog Try.f3 false true false false) := by
  refine returnsInHanded_of_change (C := Try.checked) own started (by kernel_rfl) Try.func3
    (ChangeSpec.witness6 (enc := enc) (C := Try.checked) false ⟨#[], #[.slice none 0 0, .slice none 0 0], []⟩ 8 (by kernel_rfl) (by kernel_rfl) (by kernel_rfl) (by kernel_rfl)) ?_
  intro W base args ds gs before hval0 hW hcnd _
  have hval : ∀ (j : Nat) t v, Try.f3.params[j]? = some t → args[j]? = some v → Value.okWide Try.prog W .any base t v := hval0
  have hW' := hW
  obtain ⟨p, q, hA0, hV, rfl, hfz, hnd⟩ := hW
  have hA : DataW.TrodAll enc Try.prog W 0 (fun _ => true) true Try.f3.params.toList args.toList ds p := hA0
  rw [Try.params3] at hA hval
  obtain ⟨v0, vs0, d0, ds0, p0, q0, hargs, rfl, rfl, h0, r0⟩ := trodAll_cons hA
  obtain ⟨v1, vs1, d1, ds1, p1, q1, rfl, rfl, rfl, h1, r1⟩ := trodAll_cons r0
  obtain ⟨rfl, rfl, rfl⟩ := trodAll_nil r1
  obtain rfl : args = #[v0, v1] := by cases args; simp_all
  obtain ⟨rfl, rfl⟩ := trodVars_none hV
  obtain ⟨a0, len0, cap0, rfl⟩ := okWide_slice Try.underlying22 (hval 0 22 v0 rfl rfl)
  obtain ⟨a1, len1, cap1, rfl⟩ := okWide_slice Try.underlying23 (hval 1 23 v1 rfl rfl)
  have k0 := h0
  have k1 := h1
  have lt0 : ∀ x ∈ p0, x.block < W.heap.size := by obtain ⟨m, hm⟩ := k0; exact DataW.trod_lt m _ _ _ hm
  have lt1 : ∀ x ∈ p1, x.block < W.heap.size := by obtain ⟨m, hm⟩ := k1; exact DataW.trod_lt m _ _ _ hm
  have s0 : ∃ (a : Option Addr) (L : List Pt) (c : Nat), Value.slice a0 len0 cap0 = .slice a L.length c ∧ L.length ≤ maxLen ∧ PartsAt (fun _ => True) (fun _ => True) W a L ∧
      (∀ (i : Nat) (p : Pt), L[i]? = some p → p.2.1 ≤ 9223372036854775807) ∧ (∀ (i : Nat) (p : Pt), L[i]? = some p → p.2.2.length ≤ maxLen) := by
    obtain ⟨fuel, hf⟩ := h0
    exact parts_of (by simpa [Value.cells] using hf)
  have s1 : Value.slice a1 len1 cap1 = .slice none 0 0 ∨ ∃ (ad : Addr) (t : List Int) (c : Nat), Value.slice a1 len1 cap1 = .slice (some ad) t.length c ∧ t.length ≤ maxLen ∧ TxtAt (fun _ => True) W (some ad) t := by
    obtain ⟨fuel, hf⟩ := h1
    exact txt_of (by simpa [Value.cells] using hf)
  clear hA0 hval0
  have main : Calls Try.prog 3 #[.slice a0 len0 cap0, .slice a1 len1 cap1] W fun e w' => e = .returned (.bool true) ∧ Below W.heap.size W w' := by
    obtain ⟨a, L, c, e0, hl, hp, hN, hT⟩ := s0
    rw [e0]
    rcases s1 with e1 | ⟨ad, t, ct, e1, ht1, ht2⟩
    · rw [e1]
      exact top3_none _ _ a c L 0 W hp hN hl hT
    · rw [e1]
      exact top3_some _ _ a c L ad ct t W hp hN ht2 hl ht1 hT
  refine main.mono fun e W' ⟨he, bel⟩ => ?_
  subst he
  exact ⟨_, rfl, _, _, _, [], _, [], hW', trodAll_mk1 (shut_bool Try.underlying4 _), (trodAll_cons_mk (Below.trod laidOut (by kernel_rfl) (of_decide_eq_true (by kernel_rfl)) k0 bel lt0) (trodAll_cons_mk (Below.trod laidOut (by kernel_rfl) (of_decide_eq_true (by kernel_rfl)) k1 bel lt1) trodAll_mk0)), rfl, bel.frame _, fun h => by cases h⟩

theorem over : Rows.fnInsertMatchesCanonicalModelRow.holds Try.pinned (OpenSpec.ofChange Rows.fnInsertMatchesCanonicalModelSpec) :=
  OpenClaim.holds_of_wide 3 Try.f3 rfl rfl rfl rfl rfl rfl rfl ⟨rfl, rfl, rfl, rfl, rfl⟩ rfl rfl rfl rfl rfl (by kernel_rfl) Try.func3 (by kernel_rfl)
    (of_decide_eq_true (by kernel_rfl)) (by unfold Func.isWrapper; first | (rw [if_pos (by decide +kernel)]; kernel_rfl) | (rw [if_neg (by decide +kernel)]; exact ⟨rfl, rfl⟩))
    (fun os started H enc _ => lifted os started H enc)

end Go.Proofs.Qxb6602551a.insProof

namespace Go.Proofs.Qxb6602551a
/-- THE STATEMENT. -/
theorem fnInsertMatchesCanonicalModel_proved : Rows.FnInsertMatchesCanonicalModelSaid := insProof.over
end Go.Proofs.Qxb6602551a

/-
  SEAT b6000123a: timesX, times.
-/
import Derived.Test.Qxb6000123aSmall
namespace Go.Proofs.Qxb6000123a
open Go.RowKit

theorem and_one0 (v : Nat) (hv : v < 18446744073709551616) : bits .and .u64 (v : Int) 1 = if v.testBit 0 then 1 else 0 := by
  have h := and_one v 0 hv
  rw [show ((v : Int) / 2 ^ 0) = (v : Int) by simp] at h
  exact h

theorem timesX_any (n p v : Nat) (hp : p < 18446744073709551616) (hv : v < 18446744073709551616) (w : World) :
    Calls Try.prog 18 #[.agg #[.int .u64 n, .int .u64 p], .int .u64 v] w fun e w' => e = .returned (.int .u64 (tX p v)) ∧ Below w.heap.size w w' := by
  have hb := and_one0 v hv
  have hx : bits .xor .u64 ((v : Int) / 2) (p : Int) = ((v / 2 ^^^ p : Nat) : Int) := by
    rw [show ((v : Int) / 2) = ((v / 2 : Nat) : Int) by omega]
    exact bits_xor_u64_nat (v / 2) p (by omega) hp
  cases ht : v.testBit 0 with
  | true =>
    have HX : Hid (tX p v = v / 2 ^^^ p) := by show tX p v = _; unfold tX; rw [ht, if_pos rfl]
    rw [ht, if_pos rfl] at hb
    clear ht
    go_enter Try.func18, Try.ntmps18
    go_wp2_with fail
    go_ret
    exact ⟨by rw [HX.out]; rfl, (Below.refl _ _).alloc (Nat.le_refl _) _⟩
  | false =>
    have HX : Hid (tX p v = v / 2) := by show tX p v = _; unfold tX; rw [ht, if_neg (by simp), Nat.xor_zero]
    rw [ht, if_neg (by simp)] at hb
    clear ht
    go_enter Try.func18, Try.ntmps18
    go_wp2_with fail
    go_ret
    exact ⟨by rw [HX.out]; rfl, (Below.refl _ _).alloc (Nat.le_refl _) _⟩

theorem zzTimesX_any (n p v : Nat) (hp : p < 18446744073709551616) (hv : v < 18446744073709551616) (w : World) :
    Calls Try.prog 11 #[.int .u64 n, .int .u64 p, .int .u64 v] w fun e w' => e = .returned (.int .u64 (tX p v)) ∧ Below w.heap.size w w' := by
  go_enter Try.func11, Try.ntmps11
  go_wp2_with fail
  refine (timesX_any n p v hp hv _).mono ?_
  rintro e w' ⟨rfl, b1⟩
  go_wp2_with fail
  go_ret
  exact ⟨rfl, b1⟩

theorem times_step (p u m v : Nat) : T (tX p) (m + 1) (fun i => u.testBit (m + 1 - 1 - i)) v = (if u.testBit m then v else 0) ^^^ T (tX p) m (fun i => u.testBit (m - 1 - i)) (tX p v) := by
  have e : (fun i => u.testBit (m + 1 - 1 - (i + 1))) = fun i => u.testBit (m - 1 - i) := funext fun i => by rw [show m + 1 - 1 - (i + 1) = m - 1 - i by omega]
  show (if u.testBit (m + 1 - 1 - 0) then v else 0) ^^^ T (tX p) m (fun i => u.testBit (m + 1 - 1 - (i + 1))) (tX p v) = _
  rw [e, show m + 1 - 1 - 0 = m by omega]

/-- What the loop of 'times' keeps: the product so far, and what is to come. -/
def Times (n p u v m p' v' : Nat) : Prop := v' < 2 ^ n ∧ p' < 2 ^ n ∧ p' ^^^ T (tX p) m (fun i => u.testBit (m - 1 - i)) v' = times n p u v

theorem times_any (n p u v : Nat) (hn : 1 ≤ n) (hn' : n ≤ 64) (hp : p < 2 ^ n) (hv : v < 2 ^ n) (hu : u < 18446744073709551616) (w : World) :
    Calls Try.prog 20 #[.agg #[.int .u64 n, .int .u64 p], .int .u64 u, .int .u64 v] w fun e w' => e = .returned (.int .u64 (times n p u v)) ∧ Below w.heap.size w w' := by
  have HP : Hid (p < 2 ^ n) := hp
  have HT : Hid (Times n p u v n 0 v) := ⟨hv, Nat.two_pow_pos n, by rw [Nat.zero_xor]; rfl⟩
  have hp64 := lt_of_pow hp hn'
  clear hp hv
  go_enter Try.func20, Try.ntmps20
  go_wp2_with fail
  go_loopw [2, 7, 8] (fun vv pr bit wr => ∃ m p' v' : Nat, m ≤ n ∧ vv = .int .u64 v' ∧ pr = .int .u64 p' ∧ bit = .int .i64 ((m : Int) - 1) ∧ Times n p u v m p' v' ∧ Below w.heap.size w wr ∧ w.heap.size < wr.heap.size ∧
    wr.cell? ⟨w.heap.size, 0, none⟩ = some (.int .u64 n) ∧ wr.cell? ⟨w.heap.size, 1, none⟩ = some (.int .u64 p)) (fun _ _ bit _ => (1 + intOf bit).toNat)
  case atStart => exact ⟨n, 0, v, Nat.le_refl _, rfl, rfl, rfl, HT.out, (Below.refl _ _).alloc (Nat.le_refl _) _, by simp, by simp, by simp⟩
  case round =>
    obtain ⟨m, p', v', hm, rfl, rfl, rfl, hT, hB, hs, c0, c1⟩ := hrel
    have HB : Hid (Below w.heap.size w wr) := hB
    have H1 : Hid (Times n p u v m p' v') := hT
    clear hB hT HT
    cases m with
    | zero =>
      go_wp2_with fail
      go_ret
      have e : times n p u v = p' := by
        have h := H1.out.2.2
        rw [show T (tX p) 0 (fun i => u.testBit (0 - 1 - i)) v' = 0 from rfl, Nat.xor_zero] at h
        exact h.symm
      exact ⟨by rw [e]; rfl, HB.out⟩
    | succ m =>
      have hv64 := lt_of_pow H1.out.1 hn'
      have hq64 := lt_of_pow H1.out.2.1 hn'
      rw [show ((m + 1 : Nat) : Int) - 1 = (m : Int) by omega]
      have hb := and_one u m hu
      have hx := bits_xor_u64_nat p' v' hq64 hv64
      cases ht : u.testBit m with
      | true =>
        have HN : Hid (Times n p u v m (p' ^^^ v') (tX p v')) := by
          obtain ⟨h1, h2, h3⟩ := H1.out
          rw [times_step, ht, if_pos rfl, ← Nat.xor_assoc] at h3
          exact ⟨tX_lt p v' n HP.out h1, Nat.xor_lt_two_pow h2 h1, h3⟩
        rw [ht, if_pos rfl] at hb
        clear ht
        go_wp2_with fail
        refine (timesX_any n p v' hp64 hv64 _).mono ?_
        rintro e w2 ⟨rfl, b2⟩
        have B2 : Hid (Below wr.heap.size wr w2) := b2
        have d0 : w2.cell? ⟨w.heap.size, 0, none⟩ = some (.int .u64 n) := by rw [b2.cell (p := ⟨w.heap.size, 0, none⟩) hs]; exact c0
        have d1 : w2.cell? ⟨w.heap.size, 1, none⟩ = some (.int .u64 p) := by rw [b2.cell (p := ⟨w.heap.size, 1, none⟩) hs]; exact c1
        have hs2 := b2.size
        clear b2
        go_wp2_with fail
        exact ⟨⟨m, p' ^^^ v', tX p v', by omega, rfl, rfl, rfl, HN.out, HB.out.trans (B2.out.mono (by omega)), by omega, d0, d1⟩, by simp [intOf]; omega⟩
      | false =>
        have HN : Hid (Times n p u v m p' (tX p v')) := by
          obtain ⟨h1, h2, h3⟩ := H1.out
          rw [times_step, ht, if_neg (by simp), Nat.zero_xor] at h3
          exact ⟨tX_lt p v' n HP.out h1, h2, h3⟩
        rw [ht, if_neg (by simp)] at hb
        clear ht
        go_wp2_with fail
        refine (timesX_any n p v' hp64 hv64 _).mono ?_
        rintro e w2 ⟨rfl, b2⟩
        have B2 : Hid (Below wr.heap.size wr w2) := b2
        have d0 : w2.cell? ⟨w.heap.size, 0, none⟩ = some (.int .u64 n) := by rw [b2.cell (p := ⟨w.heap.size, 0, none⟩) hs]; exact c0
        have d1 : w2.cell? ⟨w.heap.size, 1, none⟩ = some (.int .u64 p) := by rw [b2.cell (p := ⟨w.heap.size, 1, none⟩) hs]; exact c1
        have hs2 := b2.size
        clear b2
        go_wp2_with fail
        exact ⟨⟨m, p', tX p v', by omega, rfl, rfl, rfl, HN.out, HB.out.trans (B2.out.mono (by omega)), by omega, d0, d1⟩, by simp [intOf]; omega⟩
end Go.Proofs.Qxb6000123a

/-
  SEAT b6000123a: ZZTimes, zzMulN.
-/
import Derived.Test.Qxb6000123aTimes
namespace Go.Proofs.Qxb6000123a
open Go.RowKit

theorem zzTimes_any (n p u v : Nat) (hn : 1 ≤ n) (hn' : n ≤ 64) (hp : p < 2 ^ n) (hv : v < 2 ^ n) (hu : u < 18446744073709551616) (w : World) :
    Calls Try.prog 14 #[.int .u64 n, .int .u64 p, .int .u64 u, .int .u64 v] w fun e w' => e = .returned (.int .u64 (times n p u v)) ∧ Below w.heap.size w w' := by
  have HC : Hid (∀ w : World, Calls Try.prog 20 #[.agg #[.int .u64 n, .int .u64 p], .int .u64 u, .int .u64 v] w fun e w' => e = .returned (.int .u64 (times n p u v)) ∧ Below w.heap.size w w') := times_any n p u v hn hn' hp hv hu
  go_enter Try.func14, Try.ntmps14
  go_wp2_with fail
  refine (HC.out _).mono ?_
  rintro e w' ⟨rfl, b1⟩
  go_wp2_with fail
  go_ret
  exact ⟨rfl, b1⟩

theorem mul_step (n g a m k b : Nat) : xtime n g (T (xtime n g) k (fun i => a.testBit (m + 1 + i)) b) ^^^ (if a.testBit m then b else 0) = T (xtime n g) (k + 1) (fun i => a.testBit (m + i)) b := by
  have e : (fun i => a.testBit (m + (i + 1))) = fun i => a.testBit (m + 1 + i) := funext fun i => by rw [show m + (i + 1) = m + 1 + i by omega]
  show _ = (if a.testBit (m + 0) then b else 0) ^^^ T (xtime n g) k (fun i => a.testBit (m + (i + 1))) (xtime n g b)
  rw [e, T_lin (xtime n g) (xtime_xor n g) (xtime_zero n g), Nat.xor_comm]
  rfl

/-- What the loop of 'zzMulN' keeps ahead of the round of bit m - 1. -/
def Mul (n g a b m r : Nat) : Prop := r < 2 ^ n ∧ r = T (xtime n g) (n - m) (fun i => a.testBit (m + i)) b

theorem mulN_any (n g a b : Nat) (hn : 1 ≤ n) (hn' : n ≤ 64) (hg : g < 2 ^ n) (hb : b < 2 ^ n) (ha : a < 18446744073709551616) (w : World) :
    Calls Try.prog 15 #[.int .u64 a, .int .u64 b, .int .u64 n, .int .u64 g] w fun e w' => e = .returned (.int .u64 (mulN n g a b)) ∧ w' = w := by
  have HG : Hid (g < 2 ^ n) := hg
  have HB : Hid (b < 2 ^ n) := hb
  have H0 : Hid (Mul n g a b n 0) := ⟨Nat.two_pow_pos n, by rw [Nat.sub_self]; rfl⟩
  have hg64 := lt_of_pow hg hn'
  have hb64 := lt_of_pow hb hn'
  clear hg hb
  go_enter Try.func15, Try.ntmps15
  go_wp2_with fail
  go_loop [9, 10] (fun rr i => ∃ m r : Nat, m ≤ n ∧ rr = .int .u64 r ∧ i = .int .i64 ((m : Int) - 1) ∧ Mul n g a b m r) (fun _ i => (1 + intOf i).toNat)
  case atStart => exact ⟨n, 0, Nat.le_refl _, rfl, rfl, H0.out⟩
  case round =>
    obtain ⟨m, r, hm, rfl, rfl, hM⟩ := hrel
    have H1 : Hid (Mul n g a b m r) := hM
    clear hM H0
    cases m with
    | zero =>
      go_wp2_with fail
      go_ret
      have e : mulN n g a b = r := by
        have h := H1.out.2
        rw [Nat.sub_zero] at h
        rw [h]
        exact T_congr _ n _ _ b fun i _ => by rw [Nat.zero_add]
      exact ⟨by rw [e]; rfl, rfl⟩
    | succ m =>
      have hr64 := lt_of_pow H1.out.1 hn'
      have hx := bits_xor_u64_nat (xtime n g r) b (lt_of_pow (xtime_lt n g r HG.out) hn') hb64
      have hand := and_one a m ha
      rw [show ((m + 1 : Nat) : Int) - 1 = (m : Int) by omega]
      have HS : Hid (xtime n g r ^^^ (if a.testBit m then b else 0) = T (xtime n g) (n - m) (fun i => a.testBit (m + i)) b) := by
        have h := mul_step n g a m (n - (m + 1)) b
        rw [← H1.out.2, show n - (m + 1) + 1 = n - m by omega] at h
        exact h
      cases ht : a.testBit m with
      | true =>
        have HN : Hid (Mul n g a b m (xtime n g r ^^^ b)) := by
          have h := HS.out
          rw [ht, if_pos rfl] at h
          exact ⟨Nat.xor_lt_two_pow (xtime_lt n g r HG.out) HB.out, h⟩
        rw [ht, if_pos rfl] at hand
        clear ht
        go_wp2_with fail
        refine (xtime_any r n g hr64 hg64 hn hn' _).mono ?_
        rintro e w2 ⟨rfl, rfl⟩
        go_wp2_with fail
        exact ⟨⟨m, xtime n g r ^^^ b, by omega, rfl, rfl, HN.out⟩, by simp [intOf]; omega⟩
      | false =>
        have HN : Hid (Mul n g a b m (xtime n g r)) := by
          have h := HS.out
          rw [ht, if_neg (by simp), Nat.xor_zero] at h
          exact ⟨xtime_lt n g r HG.out, h⟩
        rw [ht, if_neg (by simp)] at hand
        clear ht
        go_wp2_with fail
        refine (xtime_any r n g hr64 hg64 hn hn' _).mono ?_
        rintro e w2 ⟨rfl, rfl⟩
        go_wp2_with fail
        exact ⟨⟨m, xtime n g r, by omega, rfl, rfl, HN.out⟩, by simp [intOf]; omega⟩
end Go.Proofs.Qxb6000123a

/-
  SEAT b6000123a: the small functions of the law's own package: zzMask, zzXtime, zzRev.
-/
import Derived.Test.Qxb6000123aRows
import Derived.Test.Qxb6000123aPlain
import Derived.WalkKit
import Derived.WalkSpells
import Derived.WalkLawsBesides
import Derived.Laws.Bits64b
import Derived.Below
namespace Go.Proofs.Qxb6000123a
open Go.RowKit

theorem and_one (v i : Nat) (hv : v < 18446744073709551616) : bits .and .u64 ((v : Int) / 2 ^ i) 1 = if v.testBit i then 1 else 0 := by
  have e : ((v : Int) / 2 ^ i) = ((v / 2 ^ i : Nat) : Int) := by norm_cast
  have hlt : v / 2 ^ i < 18446744073709551616 := Nat.lt_of_le_of_lt (Nat.div_le_self _ _) hv
  rw [e, show (1 : Int) = ((1 : Nat) : Int) from rfl, bits_and_u64_nat _ _ hlt (by omega), Nat.and_one_is_mod]
  have h := Nat.testBit_eq_decide_div_mod_eq (x := v) (i := i)
  rw [h]
  have : v / 2 ^ i % 2 = 0 ∨ v / 2 ^ i % 2 = 1 := by omega
  rcases this with h' | h' <;> simp [h']

theorem mask_is : ∀ n : Nat, n < 65 → 18446744073709551615 / 2 ^ (64 - n) = 2 ^ n - 1 := by decide +kernel
theorem mask_int (n : Nat) (hn : n ≤ 64) : (18446744073709551615 : Int) / 2 ^ (64 - n) = ((2 ^ n - 1 : Nat) : Int) := by
  rw [← mask_is n (by omega), Int.natCast_ediv, Int.natCast_pow]
  rfl

theorem mask_any (n : Nat) (hn : 1 ≤ n) (hn' : n ≤ 64) (w : World) : Calls Try.prog 19 #[.int .u64 n] w fun e w' => e = .returned (.int .u64 ((2 ^ n - 1 : Nat) : Int)) ∧ w' = w := by
  have HM : Hid ((18446744073709551615 : Int) / 2 ^ (64 - n) = ((2 ^ n - 1 : Nat) : Int)) := mask_int n hn'
  go_enter Try.func19, Try.ntmps19
  go_wp2_with fail
  rw [HM.out]
  go_ret
  exact ⟨rfl, rfl⟩


theorem pow_lt64 {m : Nat} (h : m < 64) : 2 ^ m < 18446744073709551616 := Nat.lt_of_lt_of_le (Nat.pow_lt_pow_right (by omega) h) (Nat.le_refl _)
theorem or_pow (R m : Nat) (hR : R < 18446744073709551616) (hm : m < 64) : bits .or .u64 (R : Int) (IntKind.u64.wrap (2 ^ m)) = ((R ||| 2 ^ m : Nat) : Int) := by
  have e : IntKind.u64.wrap (2 ^ m) = ((2 ^ m : Nat) : Int) := by
    rw [IntKind.wrap_u64, show (2 : Int) ^ m = ((2 ^ m : Nat) : Int) by rw [Int.natCast_pow]; rfl]
    have h := pow_lt64 hm
    generalize (2 ^ m : Nat) = z at h ⊢
    omega
  rw [e, bits_or_u64_nat _ _ hR (pow_lt64 hm)]
theorem lt_of_pow {x n : Nat} (h : x < 2 ^ n) (hn : n ≤ 64) : x < 18446744073709551616 := Nat.lt_of_lt_of_le h (Nat.pow_le_pow_right (by omega) hn)
theorem mask_lt (n : Nat) (hn : n ≤ 64) : 2 ^ n - 1 < 18446744073709551616 := lt_of_pow (n := n) (Nat.sub_lt (Nat.two_pow_pos n) (by omega)) hn
theorem twice_and (r m : Nat) (hm : m < 18446744073709551616) : bits .and .u64 (IntKind.u64.wrap ((r : Int) * 2)) (m : Int) = ((2 * r % 2 ^ 64 &&& m : Nat) : Int) := by
  have e : IntKind.u64.wrap ((r : Int) * 2) = ((2 * r % 2 ^ 64 : Nat) : Int) := by
    rw [IntKind.wrap_u64]
    omega
  rw [e, bits_and_u64_nat _ _ (by omega) hm]

theorem xtime_any (r n g : Nat) (hr : r < 18446744073709551616) (hg : g < 18446744073709551616) (hn : 1 ≤ n) (hn' : n ≤ 64) (w : World) :
    Calls Try.prog 13 #[.int .u64 r, .int .u64 n, .int .u64 g] w fun e w' => e = .returned (.int .u64 (xtime n g r)) ∧ w' = w := by
  have hb := and_one r (n - 1) hr
  have h2 := twice_and r (2 ^ n - 1) (mask_lt n hn')
  have h64 : (2 * r % 2 ^ 64 &&& (2 ^ n - 1)) < 18446744073709551616 := Nat.lt_of_le_of_lt Nat.and_le_right (mask_lt n hn')
  obtain ⟨q, hq⟩ : ∃ q, q = 2 * r % 2 ^ 64 &&& (2 ^ n - 1) := ⟨_, rfl⟩
  rw [← hq] at h2 h64
  obtain ⟨m, hm⟩ : ∃ m, m = 2 ^ n - 1 := ⟨_, rfl⟩
  have hma := mask_any n hn hn'
  rw [← hm] at h2 hma
  have hx := bits_xor_u64_nat q g h64 hg
  have HQ : Hid (q = 2 * r % 2 ^ 64 &&& (2 ^ n - 1)) := hq
  clear hq hm
  cases ht : r.testBit (n - 1) with
  | true =>
    have HX : Hid (xtime n g r = q ^^^ g) := by show xtime n g r = _; unfold xtime; rw [ht, if_pos rfl, HQ.out]
    rw [ht, if_pos rfl] at hb
    clear ht
    go_enter Try.func13, Try.ntmps13
    go_wp2_with fail
    refine (hma _).mono ?_
    rintro e w' ⟨rfl, rfl⟩
    go_wp2_with fail
    go_ret
    exact ⟨by rw [HX.out]; rfl, rfl⟩
  | false =>
    have HX : Hid (xtime n g r = q) := by show xtime n g r = _; unfold xtime; rw [ht, if_neg (by simp), HQ.out, Nat.xor_zero]
    rw [ht, if_neg (by simp)] at hb
    clear ht
    go_enter Try.func13, Try.ntmps13
    go_wp2_with fail
    refine (hma _).mono ?_
    rintro e w' ⟨rfl, rfl⟩
    go_wp2_with fail
    go_ret
    exact ⟨by rw [HX.out]; rfl, rfl⟩

theorem rev_any (v n : Nat) (hv : v < 18446744073709551616) (hn : 1 ≤ n) (hn' : n ≤ 64) (w : World) :
    Calls Try.prog 12 #[.int .u64 v, .int .u64 n] w fun e w' => e = .returned (.int .u64 (rev v n)) ∧ w' = w := by
  go_enter Try.func12, Try.ntmps12
  go_wp2_with fail
  go_loop [5, 6] (fun r i => ∃ k : Nat, k ≤ n ∧ i = .int .u64 k ∧ r = .int .u64 (revTo v n k)) (fun _ i => (n - intOf i).toNat)
  case atStart => exact ⟨0, by omega, rfl, rfl⟩
  case round =>
    obtain ⟨k, hk, rfl, rfl⟩ := hrel
    by_cases hlt : k < n
    · have hlt' : (k : Int) < n := by omega
      have h64 : revTo v n k < 18446744073709551616 := Nat.lt_of_lt_of_le (revTo_lt v n k hk) (Nat.pow_le_pow_right (by omega) hn')
      have hb := and_one v k hv
      cases ht : v.testBit k with
      | true =>
        have HS : Hid (revTo v n (k + 1) = revTo v n k ||| 2 ^ (n - 1 - k)) := by
          show revTo v n (k + 1) = _
          rw [revTo, if_pos ht]
        rw [ht, if_pos rfl] at hb
        clear ht
        go_wp2_with fail
        exact ⟨⟨k + 1, by omega, by go_num, by rw [HS.out, or_pow _ _ h64 (by omega)]⟩, by simp [intOf]; omega⟩
      | false =>
        have HS : Hid (revTo v n (k + 1) = revTo v n k) := by
          show revTo v n (k + 1) = _
          rw [revTo, if_neg (by simp [ht])]
        rw [ht, if_neg (by simp)] at hb
        clear ht
        go_wp2_with fail
        exact ⟨⟨k + 1, by omega, by go_num, by rw [HS.out]⟩, by simp [intOf]; omega⟩
    · have hkn : k = n := by omega
      subst hkn
      go_wp2_with fail
      go_ret
      exact ⟨rfl, rfl⟩
end Go.Proofs.Qxb6000123a

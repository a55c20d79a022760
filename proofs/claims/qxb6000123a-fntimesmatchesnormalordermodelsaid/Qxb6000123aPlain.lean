/-
  SEAT b6000123a: the plain side: remainders of polynomials over two elements as natural numbers, in the two bit orders. No Go in this text.
-/
namespace Go.Proofs.Qxb6000123a

/-- The low n bits of v turned round: what the loop of 'zzRev' holds ahead of its round k. -/
def revTo (v n : Nat) : Nat → Nat
  | 0 => 0
  | k + 1 => if v.testBit k then revTo v n k ||| 2 ^ (n - 1 - k) else revTo v n k
def rev (v n : Nat) : Nat := revTo v n n
/-- 'zzXtime'. -/
def xtime (n g r : Nat) : Nat := (2 * r % 2 ^ 64 &&& (2 ^ n - 1)) ^^^ (if r.testBit (n - 1) then g else 0)
/-- 'timesX'. -/
def tX (p v : Nat) : Nat := v / 2 ^^^ (if v.testBit 0 then p else 0)
/-- The sum (by xor) of s^i v over the i below k with f i. -/
def T (s : Nat → Nat) : Nat → (Nat → Bool) → Nat → Nat
  | 0, _, _ => 0
  | k + 1, f, v => (if f 0 then v else 0) ^^^ T s k (fun i => f (i + 1)) (s v)

theorem bit_if (c : Bool) (g j : Nat) : (if c then g else 0).testBit j = (c && g.testBit j) := by cases c <;> simp
theorem bit_ifp {c : Prop} [Decidable c] (g j : Nat) : (if c then g else 0).testBit j = (decide c && g.testBit j) := by by_cases h : c <;> simp [h]

theorem revTo_bit (v n : Nat) : ∀ (k j : Nat), k ≤ n → (revTo v n k).testBit j = (decide (j < n) && decide (n - 1 - j < k) && v.testBit (n - 1 - j))
  | 0, j, _ => by simp [revTo]
  | k + 1, j, h => by
    have ih := revTo_bit v n k j (by omega)
    unfold revTo
    by_cases hv : v.testBit k
    · rw [if_pos hv, Nat.testBit_or, ih, Nat.testBit_two_pow]
      by_cases hj : j < n
      · by_cases he : n - 1 - j = k
        · have e2 : n - 1 - k = j := by omega
          simp [hj, he, e2, hv]
        · have e2 : ¬ (n - 1 - k = j) := by omega
          have e3 : (n - 1 - j < k + 1) ↔ (n - 1 - j < k) := by omega
          simp [hj, e2, e3]
      · have e2 : ¬ (n - 1 - k = j) := by omega
        simp [hj, e2]
    · rw [if_neg hv, ih]
      by_cases he : n - 1 - j = k
      · simp [he, hv]
      · have e3 : (n - 1 - j < k + 1) ↔ (n - 1 - j < k) := by omega
        simp [e3]

theorem rev_bit (v n j : Nat) : (rev v n).testBit j = (decide (j < n) && v.testBit (n - 1 - j)) := by
  unfold rev
  rw [revTo_bit v n n j (Nat.le_refl _)]
  by_cases hj : j < n
  · have : n - 1 - j < n := by omega
    simp [hj, this]
  · simp [hj]

theorem revTo_lt (v n k : Nat) (h : k ≤ n) : revTo v n k < 2 ^ n :=
  Nat.lt_pow_two_of_testBit _ fun j hj => by
    rw [revTo_bit v n k j h]
    have : ¬ j < n := by omega
    simp [this]
theorem rev_lt (v n : Nat) : rev v n < 2 ^ n := revTo_lt v n n (Nat.le_refl _)

theorem bit_high {v n j : Nat} (hv : v < 2 ^ n) (hj : n ≤ j) : v.testBit j = false :=
  Nat.testBit_lt_two_pow (Nat.lt_of_lt_of_le hv (Nat.pow_le_pow_right (by omega) hj))

theorem rev_rev (v n : Nat) (hv : v < 2 ^ n) : rev (rev v n) n = v := by
  apply Nat.eq_of_testBit_eq
  intro j
  rw [rev_bit, rev_bit]
  by_cases hj : j < n
  · have h1 : n - 1 - j < n := by omega
    have h2 : n - 1 - (n - 1 - j) = j := by omega
    simp [hj, h1, h2]
  · simp [hj, bit_high hv (by omega : n ≤ j)]

theorem rev_xor (a b n : Nat) : rev (a ^^^ b) n = rev a n ^^^ rev b n := by
  apply Nat.eq_of_testBit_eq
  intro j
  rw [Nat.testBit_xor, rev_bit, rev_bit, rev_bit, Nat.testBit_xor]
  by_cases hj : j < n <;> simp [hj]
theorem rev_zero (n : Nat) : rev 0 n = 0 := by
  apply Nat.eq_of_testBit_eq
  intro j
  rw [rev_bit]
  simp

theorem two_mul_bit (r j : Nat) : (2 * r).testBit j = (decide (1 ≤ j) && r.testBit (j - 1)) := by
  cases j with
  | zero => simp [Nat.testBit_zero]
  | succ j =>
    rw [Nat.testBit_succ, Nat.mul_div_cancel_left r (by omega)]
    simp

theorem xtime_bit (n g r j : Nat) : (xtime n g r).testBit j = ((decide (j < 64) && (decide (1 ≤ j) && r.testBit (j - 1)) && decide (j < n)) ^^ (r.testBit (n - 1) && g.testBit j)) := by
  unfold xtime
  rw [Nat.testBit_xor, Nat.testBit_and, Nat.testBit_two_pow_sub_one, Nat.testBit_mod_two_pow, two_mul_bit, bit_if]
theorem tX_bit (p v j : Nat) : (tX p v).testBit j = (v.testBit (j + 1) ^^ (v.testBit 0 && p.testBit j)) := by
  unfold tX
  rw [Nat.testBit_xor, bit_if, Nat.testBit_succ]

theorem xtime_xor (n g a b : Nat) : xtime n g (a ^^^ b) = xtime n g a ^^^ xtime n g b := by
  apply Nat.eq_of_testBit_eq
  intro j
  rw [Nat.testBit_xor, xtime_bit, xtime_bit, xtime_bit, Nat.testBit_xor, Nat.testBit_xor]
  cases a.testBit (j - 1) <;> cases b.testBit (j - 1) <;> cases a.testBit (n - 1) <;> cases b.testBit (n - 1) <;> cases g.testBit j <;> cases decide (j < 64) <;> cases decide (1 ≤ j) <;> cases decide (j < n) <;> rfl
theorem xtime_zero (n g : Nat) : xtime n g 0 = 0 := by
  apply Nat.eq_of_testBit_eq
  intro j
  rw [xtime_bit]
  simp
theorem xtime_lt (n g r : Nat) (hg : g < 2 ^ n) : xtime n g r < 2 ^ n :=
  Nat.xor_lt_two_pow (Nat.lt_of_le_of_lt Nat.and_le_right (Nat.sub_lt (Nat.two_pow_pos n) (by omega))) (by split <;> first | exact hg | exact Nat.two_pow_pos n)
theorem tX_lt (p v n : Nat) (hp : p < 2 ^ n) (hv : v < 2 ^ n) : tX p v < 2 ^ n :=
  Nat.xor_lt_two_pow (by omega) (by split <;> first | exact hp | exact Nat.two_pow_pos n)

/-- ONE STEP IN THE ONE ORDER IS ONE STEP IN THE OTHER. -/
theorem rev_tX (n p v : Nat) (hn : 1 ≤ n) (hn' : n ≤ 64) (hv : v < 2 ^ n) : rev (tX p v) n = xtime n (rev p n) (rev v n) := by
  apply Nat.eq_of_testBit_eq
  intro j
  rw [xtime_bit, rev_bit, rev_bit, rev_bit, rev_bit, tX_bit]
  by_cases hj : j < n
  · have h64 : j < 64 := by omega
    have e0 : n - 1 - (n - 1) = 0 := by omega
    have e1 : n - 1 < n := by omega
    by_cases hj0 : 1 ≤ j
    · have e2 : n - 1 - (j - 1) = n - 1 - j + 1 := by omega
      have e3 : j - 1 < n := by omega
      simp [hj, h64, e0, e1, hj0, e2, e3]
    · have hj1 : j = 0 := by omega
      subst hj1
      have e2 : n - 1 - 0 + 1 = n := by omega
      have e3 : v.testBit n = false := bit_high hv (Nat.le_refl _)
      simp only [Nat.sub_zero] at e2
      simp [hj, h64, e0, e1, e2, e3]
  · simp [hj]

theorem T_congr (s : Nat → Nat) : ∀ (k : Nat) (f f' : Nat → Bool) (v : Nat), (∀ i, i < k → f i = f' i) → T s k f v = T s k f' v
  | 0, _, _, _, _ => rfl
  | k + 1, f, f', v, h => by
    unfold T
    rw [h 0 (by omega), T_congr s k _ _ (s v) (fun i hi => h (i + 1) (by omega))]
theorem T_none (s : Nat → Nat) : ∀ (k : Nat) (f : Nat → Bool) (v : Nat), (∀ i, i < k → f i = false) → T s k f v = 0
  | 0, _, _, _ => rfl
  | k + 1, f, v, h => by
    unfold T
    rw [h 0 (by omega), T_none s k _ (s v) (fun i hi => h (i + 1) (by omega))]
    simp
theorem T_lin (s : Nat → Nat) (hs : ∀ a b, s (a ^^^ b) = s a ^^^ s b) (h0 : s 0 = 0) : ∀ (k : Nat) (f : Nat → Bool) (v : Nat), s (T s k f v) = T s k f (s v)
  | 0, _, _ => h0
  | k + 1, f, v => by
    unfold T
    rw [hs, T_lin s hs h0 k]
    congr 1
    split
    · rfl
    · exact h0
theorem T_lt (s : Nat → Nat) (n : Nat) (hs : ∀ v, v < 2 ^ n → s v < 2 ^ n) : ∀ (k : Nat) (f : Nat → Bool) (v : Nat), v < 2 ^ n → T s k f v < 2 ^ n
  | 0, _, _, _ => Nat.two_pow_pos n
  | k + 1, f, v, h => by
    unfold T
    refine Nat.xor_lt_two_pow ?_ (T_lt s n hs k _ (s v) (hs v h))
    split
    · exact h
    · exact Nat.two_pow_pos n

theorem rev_T (n p : Nat) (hn : 1 ≤ n) (hn' : n ≤ 64) (hp : p < 2 ^ n) : ∀ (k : Nat) (f : Nat → Bool) (v : Nat), v < 2 ^ n → rev (T (tX p) k f v) n = T (xtime n (rev p n)) k f (rev v n)
  | 0, _, _, _ => rev_zero n
  | k + 1, f, v, h => by
    unfold T
    rw [rev_xor, rev_T n p hn hn' hp k _ (tX p v) (tX_lt p v n hp h), rev_tX n p v hn hn' h]
    congr 1
    split
    · rfl
    · exact rev_zero n

/-- 'times' as a plain function. -/
def times (n p u v : Nat) : Nat := T (tX p) n (fun i => u.testBit (n - 1 - i)) v
/-- 'zzMulN' as a plain function. -/
def mulN (n g a b : Nat) : Nat := T (xtime n g) n (fun i => a.testBit i) b

theorem times_lt (n p u v : Nat) (hp : p < 2 ^ n) (hv : v < 2 ^ n) : times n p u v < 2 ^ n := T_lt _ n (fun v hv => tX_lt p v n hp hv) n _ v hv
theorem mulN_lt (n g a b : Nat) (hg : g < 2 ^ n) (hb : b < 2 ^ n) : mulN n g a b < 2 ^ n := T_lt _ n (fun v _ => xtime_lt n g v hg) n _ b hb

/-- THE LAW OF THE MODEL IN NORMAL ORDER. -/
theorem times_model (n p u v : Nat) (hn : 1 ≤ n) (hn' : n ≤ 64) (hp : p < 2 ^ n) (hv : v < 2 ^ n) :
    rev (mulN n (rev p n) (rev u n) (rev v n)) n = times n p u v := by
  have e : mulN n (rev p n) (rev u n) (rev v n) = rev (times n p u v) n := by
    unfold mulN times
    rw [rev_T n p hn hn' hp n _ v hv]
    refine T_congr _ n _ _ _ fun i hi => ?_
    rw [rev_bit]
    simp [hi]
  rw [e, rev_rev _ _ (times_lt n p u v hp hv)]

/-- THE LAW 'times by x is timesX'. -/
theorem times_x (n p v : Nat) (hn : 1 ≤ n) (hn' : n ≤ 64) (hp : p < 2 ^ n) (hv : v < 2 ^ n) :
    times n p (rev (xtime n (rev p n) 1) n) v = tX p v := by
  by_cases h1 : n = 1
  · subst h1
    have hp' : p = 0 ∨ p = 1 := by omega
    have hv' : v = 0 ∨ v = 1 := by omega
    rcases hp' with rfl | rfl <;> rcases hv' with rfl | rfl <;> decide
  · obtain ⟨m, rfl⟩ : ∃ m, n = m + 2 := ⟨n - 2, by omega⟩
    have hf : ∀ i, i < m + 2 → (rev (xtime (m + 2) (rev p (m + 2)) 1) (m + 2)).testBit (m + 2 - 1 - i) = decide (i = 1) := by
      intro i hi
      rw [rev_bit, xtime_bit]
      have e1 : m + 2 - 1 - (m + 2 - 1 - i) = i := by omega
      have e2 : m + 2 - 1 - i < m + 2 := by omega
      have e3 : (1 : Nat).testBit (m + 2 - 1) = false := by
        rw [show m + 2 - 1 = m + 1 by omega, Nat.testBit_succ]
        simp
      rw [e1, e3]
      have h64 : i < 64 := by omega
      by_cases hi1 : i = 1
      · subst hi1
        simp
      · by_cases hi0 : i = 0
        · subst hi0
          simp
        · obtain ⟨q, rfl⟩ : ∃ q, i = q + 2 := ⟨i - 2, by omega⟩
          have ht : (1 : Nat).testBit (q + 2 - 1) = false := by
            rw [show q + 2 - 1 = q + 1 by omega, Nat.testBit_succ]
            simp
          have hd : decide (q + 2 = 1) = false := decide_eq_false hi1
          rw [ht, hd]
          simp
    unfold times
    rw [T_congr _ _ _ (fun i => decide (i = 1)) v hf]
    unfold T
    unfold T
    rw [T_none _ m _ _ (fun i _ => by simp)]
    simp
end Go.Proofs.Qxb6000123a

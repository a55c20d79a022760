/-
  THE WALK of 'isCanonical'.
-/
import Derived.Test.Qxb6602551aRead
namespace Go.Proofs.Qxb6602551a
open Go.RowKit

theorem nope {C : Prop} (h : ¬ C) : (false = true ↔ C) := ⟨(fun h' => by cases h'), fun c => absurd c h⟩

set_option maxHeartbeats 4000000 in
theorem isCanonical_any (G H : Nat → Prop) (a : Option Addr) (c : Nat) (L : List Pt) (w : World) (hp : PartsAt G H w a L) (hl : L.length ≤ 5000) :
    Calls Try.prog 10 #[.slice a L.length c] w fun e w' => Says e (fun r => r = true ↔ Canon L) ∧ w = w' := by
  have Hp : Hid _ := hp
  clear hp
  obtain ⟨n, hn⟩ : ∃ n, n = L.length := ⟨_, rfl⟩
  rw [← hn] at hl ⊢
  have Hn : Hid _ := hn
  clear hn
  go_enter Try.func10, Try.ntmps10
  go_wp2
  go_loop [3] (fun i => ∃ k : Nat, k ≤ n ∧ i = .int .i64 k ∧ CanonTo L k) (fun i => (n - intOf i).toNat)
  case atStart => exact ⟨0, Nat.zero_le _, rfl, CanonTo.zero L⟩
  case round =>
    obtain ⟨k, hk, rfl, hcan⟩ := hrel
    have Hcan : Hid _ := hcan
    clear hcan
    by_cases hlt : k < n
    · have hlt' : (k : Int) < n := by omega
      obtain ⟨p, hp⟩ := at_lt (L := L) (k := k) (by rw [← Hn.out]; exact hlt)
      obtain ⟨b, off, ta, tc, rfl, _, d1, d2, d3, _⟩ := Hp.out k p hp
      have P1 : Hid _ := hp
      clear hp
      obtain ⟨kp, np, t⟩ := p
      simp only at d1 d2 d3
      have no : ¬ OkPart (kp, np, t) → ¬ Canon L := fun h c => h (c.at P1.out).1
      have No : Hid _ := no
      clear no
      obtain ⟨m, hm⟩ : ∃ m, m = t.length := ⟨_, rfl⟩
      rw [← hm] at d3
      have Hm : Hid _ := hm
      clear hm
      by_cases h0 : kp = 0
      · subst h0
        by_cases hnp : np ≤ 0
        · go_wp2
          go_ret
          exact ⟨says false (nope (No.out (fun h => by rcases h with ⟨_, h, _⟩ | ⟨h, _⟩ <;> simp at h <;> omega))), rfl⟩
        · by_cases hm0 : m = 0
          · subst hm0
            have ht : t = [] := List.eq_nil_of_length_eq_zero Hm.out.symm
            have Ht : Hid _ := ht
            clear ht
            by_cases hk0 : k = 0
            · have hk1 : (k : Int) ≤ 0 := by omega
              clear hk0
              go_wp2
              exact ⟨⟨k + 1, by omega, by go_num, CanonTo.succ Hcan.out P1.out (Or.inl ⟨Or.inl rfl, by simp only; omega, Ht.out⟩) (fun q h0 => by omega)⟩, by simp [intOf]; omega⟩
            · have hk1 : (0 : Int) < k := by omega
              obtain ⟨q, hq⟩ := at_lt (L := L) (k := k - 1) (by rw [← Hn.out]; omega)
              obtain ⟨b', off', ta', tc', hab, _, e1, _⟩ := Hp.out (k - 1) q hq
              injection hab with hab
              injection hab with hab1 hab2
              subst hab1; subst hab2
              have Q1 : Hid _ := hq
              clear hq
              obtain ⟨kq, nq, tq⟩ := q
              simp only at e1
              have npair : ¬ OkPair (kq, nq, tq) (0, np, t) → ¬ Canon L := fun h c => h ((c.at P1.out).2 _ (by omega) Q1.out)
              have NP : Hid _ := npair
              clear npair
              have pr : kq ≠ 0 → ¬ (kq = 1 ∧ (0 : Int) = 2) → ∀ q', 0 < k → L[k - 1]? = some q' → OkPair q' (0, np, t) := fun x y q' _ hq' => by
                rw [Q1.out] at hq'; injection hq' with hq'; subst hq'; exact ⟨x, y⟩
              have PR : Hid _ := pr
              clear pr
              by_cases hq1 : kq = 0
              · subst hq1
                go_wp2
                go_ret
                exact ⟨says false (nope (NP.out (fun h => h.1 rfl))), rfl⟩
              · have z1 : (kq == 0) = false := by simp [hq1]
                by_cases hq2 : kq = 1
                · subst hq2
                  go_wp2
                  exact ⟨⟨k + 1, by omega, by go_num, CanonTo.succ Hcan.out P1.out (Or.inl ⟨Or.inl rfl, by simp only; omega, Ht.out⟩) (PR.out (by decide) (by decide))⟩, by simp [intOf]; omega⟩
                · have z2 : (kq == 1) = false := by simp [hq2]
                  go_wp2
                  exact ⟨⟨k + 1, by omega, by go_num, CanonTo.succ Hcan.out P1.out (Or.inl ⟨Or.inl rfl, by simp only; omega, Ht.out⟩) (PR.out hq1 (fun h => absurd h.2 (by decide)))⟩, by simp [intOf]; omega⟩
          · have zm : ((m : Int) != 0) = true := by simp; omega
            go_wp2
            go_ret
            exact ⟨says false (nope (No.out (fun h => by rcases h with ⟨_, _, h⟩ | ⟨h, _⟩; (· simp only at h; rw [h] at Hm; exact hm0 Hm.out); (· simp at h)))), rfl⟩
      · have y0 : (kp == 0) = false := by simp [h0]
        by_cases h1 : kp = 1
        · subst h1
          by_cases hnp : np ≤ 0
          · go_wp2
            go_ret
            exact ⟨says false (nope (No.out (fun h => by rcases h with ⟨_, h, _⟩ | ⟨h, _⟩ <;> simp at h <;> omega))), rfl⟩
          · by_cases hm0 : m = 0
            · subst hm0
              have ht : t = [] := List.eq_nil_of_length_eq_zero Hm.out.symm
              have Ht : Hid _ := ht
              clear ht
              by_cases hk0 : k = 0
              · have hk1 : (k : Int) ≤ 0 := by omega
                clear hk0
                go_wp2
                exact ⟨⟨k + 1, by omega, by go_num, CanonTo.succ Hcan.out P1.out (Or.inl ⟨Or.inr rfl, by simp only; omega, Ht.out⟩) (fun q h0 => by omega)⟩, by simp [intOf]; omega⟩
              · have hk1 : (0 : Int) < k := by omega
                obtain ⟨q, hq⟩ := at_lt (L := L) (k := k - 1) (by rw [← Hn.out]; omega)
                obtain ⟨b', off', ta', tc', hab, _, e1, _⟩ := Hp.out (k - 1) q hq
                injection hab with hab
                injection hab with hab1 hab2
                subst hab1; subst hab2
                have Q1 : Hid _ := hq
                clear hq
                obtain ⟨kq, nq, tq⟩ := q
                simp only at e1
                have npair : ¬ OkPair (kq, nq, tq) (1, np, t) → ¬ Canon L := fun h c => h ((c.at P1.out).2 _ (by omega) Q1.out)
                have NP : Hid _ := npair
                clear npair
                have pr : kq ≠ 1 → ¬ (kq = 1 ∧ (1 : Int) = 2) → ∀ q', 0 < k → L[k - 1]? = some q' → OkPair q' (1, np, t) := fun x y q' _ hq' => by
                  rw [Q1.out] at hq'; injection hq' with hq'; subst hq'; exact ⟨x, y⟩
                have PR : Hid _ := pr
                clear pr
                by_cases hq1 : kq = 1
                · subst hq1
                  go_wp2
                  go_ret
                  exact ⟨says false (nope (NP.out (fun h => h.1 rfl))), rfl⟩
                · have z1 : (kq == 1) = false := by simp [hq1]
                  go_wp2
                  exact ⟨⟨k + 1, by omega, by go_num, CanonTo.succ Hcan.out P1.out (Or.inl ⟨Or.inr rfl, by simp only; omega, Ht.out⟩) (PR.out hq1 (fun h => absurd h.2 (by decide)))⟩, by simp [intOf]; omega⟩
            · have zm : ((m : Int) != 0) = true := by simp; omega
              go_wp2
              go_ret
              exact ⟨says false (nope (No.out (fun h => by rcases h with ⟨_, _, h⟩ | ⟨h, _⟩; (· simp only at h; rw [h] at Hm; exact hm0 Hm.out); (· simp at h)))), rfl⟩
        · have y1 : (kp == 1) = false := by simp [h1]
          by_cases h2 : kp = 2
          · subst h2
            by_cases hnp : np = 0
            · subst hnp
              by_cases hm0 : m = 0
              · subst hm0
                go_wp2
                go_ret
                exact ⟨says false (nope (No.out (fun h => by rcases h with ⟨h, _⟩ | ⟨_, _, h⟩; (· simp at h); (· exact h (List.eq_nil_of_length_eq_zero Hm.out.symm))))), rfl⟩
              · have zm : ((m : Int) == 0) = false := by simp; omega
                have ht : t ≠ [] := fun h => hm0 (by rw [Hm.out, h]; rfl)
                have Ht : Hid _ := ht
                clear ht
                by_cases hk0 : k = 0
                · have hk1 : (k : Int) ≤ 0 := by omega
                  clear hk0
                  go_wp2
                  exact ⟨⟨k + 1, by omega, by go_num, CanonTo.succ Hcan.out P1.out (Or.inr ⟨rfl, rfl, Ht.out⟩) (fun q h0 => by omega)⟩, by simp [intOf]; omega⟩
                · have hk1 : (0 : Int) < k := by omega
                  obtain ⟨q, hq⟩ := at_lt (L := L) (k := k - 1) (by rw [← Hn.out]; omega)
                  obtain ⟨b', off', ta', tc', hab, _, e1, _⟩ := Hp.out (k - 1) q hq
                  injection hab with hab
                  injection hab with hab1 hab2
                  subst hab1; subst hab2
                  have Q1 : Hid _ := hq
                  clear hq
                  obtain ⟨kq, nq, tq⟩ := q
                  simp only at e1
                  have npair : ¬ OkPair (kq, nq, tq) (2, 0, t) → ¬ Canon L := fun h c => h ((c.at P1.out).2 _ (by omega) Q1.out)
                  have NP : Hid _ := npair
                  clear npair
                  have pr : kq ≠ 2 → ¬ (kq = 1 ∧ (2 : Int) = 2) → ∀ q', 0 < k → L[k - 1]? = some q' → OkPair q' (2, 0, t) := fun x y q' _ hq' => by
                    rw [Q1.out] at hq'; injection hq' with hq'; subst hq'; exact ⟨x, y⟩
                  have PR : Hid _ := pr
                  clear pr
                  by_cases hq1 : kq = 2
                  · subst hq1
                    go_wp2
                    go_ret
                    exact ⟨says false (nope (NP.out (fun h => h.1 rfl))), rfl⟩
                  · by_cases hq2 : kq = 1
                    · subst hq2
                      go_wp2
                      go_ret
                      exact ⟨says false (nope (NP.out (fun h => h.2 ⟨rfl, rfl⟩))), rfl⟩
                    · have z1 : (kq == 2) = false := by simp [hq1]
                      have z2 : (kq == 1) = false := by simp [hq2]
                      go_wp2
                      exact ⟨⟨k + 1, by omega, by go_num, CanonTo.succ Hcan.out P1.out (Or.inr ⟨rfl, rfl, Ht.out⟩) (PR.out hq1 (fun h => hq2 h.1))⟩, by simp [intOf]; omega⟩
            · have zn : (np != 0) = true := by simp [hnp]
              go_wp2
              go_ret
              exact ⟨says false (nope (No.out (fun h => by rcases h with ⟨h, _⟩ | ⟨_, h, _⟩; (· simp at h); (· exact hnp h)))), rfl⟩
          · have y2 : (kp == 2) = false := by simp [h2]
            go_wp2
            go_ret
            exact ⟨says false (nope (No.out (fun h => by rcases h with ⟨h, _⟩ | ⟨h, _⟩; (· simp only at h; omega); (· exact h2 h)))), rfl⟩
    · go_wp2
      go_ret
      exact ⟨says true ⟨fun _ => by
        have e : n = k := by omega
        rw [Canon, ← Hn.out, e]; exact Hcan.out, fun _ => rfl⟩, rfl⟩
end Go.Proofs.Qxb6602551a

/-
  THE WALK of 'merge' (and of its forwarder ZZMerge): it joins two trees of neighbouring intervals.
-/
import Derived.Test.Qxb6602551aLeaf
namespace Go.Proofs.Qxb6602551a
open Go.RowKit

set_option maxHeartbeats 400000 in
theorem merge_nilL (q : Option Addr) (w : World) :
    Calls Try.prog 36 #[.pointer none, .pointer q] w fun e w' => e = .returned (.pointer q) ∧ w' = w := by
  go_enter Try.func36, Try.ntmps36
  go_wp2_with fail
  go_ret
  exact ⟨rfl, rfl⟩

set_option maxHeartbeats 400000 in
theorem merge_nilR (b : Nat) (w : World) :
    Calls Try.prog 36 #[.pointer (some ⟨b, 0, none⟩), .pointer none] w fun e w' => e = .returned (.pointer (some ⟨b, 0, none⟩)) ∧ w' = w := by
  go_enter Try.func36, Try.ntmps36
  go_wp2_with fail
  go_ret
  exact ⟨rfl, rfl⟩

theorem Len.set {w : World} {p : Option Addr} {s : Int} {b o : Nat} (v : Value) (h : Len w p s) (ho : o ≠ 3) : Len (w.setCell ⟨b, o, none⟩ v) p s := by
  rcases h with h | ⟨c, hc, h⟩
  · exact Or.inl h
  · exact Or.inr ⟨c, hc, by rw [World.cell?_setCell_other _ _ _ _ (fun e => ho (by injection e))]; exact h⟩

/-- The left root is higher: its right subtree is joined with the right tree. -/
theorem merge_left (b c : Nat) (p1 p2 n1 s1 sl sr : Int) (pl1 pr1 : Option Addr) (w : World) (R : Option Addr → World → Prop)
    (hb : w.heap[b]? = some (node n1 s1 p1 pl1 pr1)) (h4' : w.cell? ⟨c, 4, none⟩ = some (.int .u64 p2)) (hlt : p2 < p1)
    (hrec : ∀ nq, Calls Try.prog 36 #[.pointer pr1, .pointer (some ⟨c, 0, none⟩)] (w.drewN nq) fun e w1 => ∃ r, e = .returned (.pointer r) ∧ R r w1)
    (hR : ∀ r w1, R r w1 → w1.heap[b]? = some (node n1 s1 p1 pl1 pr1) ∧ Len w1 pl1 sl ∧ Len w1 r sr) :
    Calls Try.prog 36 #[.pointer (some ⟨b, 0, none⟩), .pointer (some ⟨c, 0, none⟩)] w fun e w' => e = .returned (.pointer (some ⟨b, 0, none⟩)) ∧
      ∃ r w1, R r w1 ∧ Only (fun k => k = b) w1 w' ∧ w'.heap[b]? = some (node n1 (wrap64 (wrap64 (sl + n1) + sr)) p1 pl1 r) := by
  obtain ⟨_, _, h4, _, h6⟩ := node_cell hb
  have Hrec : Hid _ := hrec
  have HR : Hid _ := hR
  clear hrec hR hb
  go_enter Try.func36, Try.ntmps36
  go_wp2_with fail
  go_quiet (fail)
  go_wp2_with fail
  refine (Hrec.out _).mono ?_
  rintro e w1 ⟨r, rfl, hr⟩
  have hr' := HR.out r w1 hr
  have c6 := (node_cell hr'.1).2.2.2.2
  have f6 := node_frozen hr'.1 6
  have Hr : Hid _ := hr
  have Hr' : Hid _ := hr'
  clear hr hr'
  go_wp2_with fail
  refine (update_any b n1 sl sr s1 p1 pl1 r _ (node_set6 Hr'.out.1 r) (Hr'.out.2.1.set _ (by decide)) (Hr'.out.2.2.set _ (by decide))).mono ?_
  rintro e w2 ⟨rfl, ho, hh⟩
  have Ho : Hid _ := ho
  have Hh : Hid _ := hh
  clear ho hh
  go_wp2_with fail
  go_ret
  exact ⟨rfl, r, w1, Hr.out, ((Only.refl (fun k => k = b) w1).setCell (fun _ => rfl) _).trans Ho.out, Hh.out⟩

/-- The right root is as high or higher: the left tree is joined with its left subtree. -/
theorem merge_right (b c : Nat) (p1 p2 n2 s2 sl sr : Int) (pl2 pr2 : Option Addr) (w : World) (R : Option Addr → World → Prop)
    (hc : w.heap[c]? = some (node n2 s2 p2 pl2 pr2)) (h4 : w.cell? ⟨b, 4, none⟩ = some (.int .u64 p1)) (hlt : ¬ p2 < p1)
    (hrec : ∀ nq, Calls Try.prog 36 #[.pointer (some ⟨b, 0, none⟩), .pointer pl2] (w.drewN nq) fun e w1 => ∃ r, e = .returned (.pointer r) ∧ R r w1)
    (hR : ∀ r w1, R r w1 → w1.heap[c]? = some (node n2 s2 p2 pl2 pr2) ∧ Len w1 r sl ∧ Len w1 pr2 sr) :
    Calls Try.prog 36 #[.pointer (some ⟨b, 0, none⟩), .pointer (some ⟨c, 0, none⟩)] w fun e w' => e = .returned (.pointer (some ⟨c, 0, none⟩)) ∧
      ∃ r w1, R r w1 ∧ Only (fun k => k = c) w1 w' ∧ w'.heap[c]? = some (node n2 (wrap64 (wrap64 (sl + n2) + sr)) p2 r pr2) := by
  obtain ⟨_, _, h4', h5, _⟩ := node_cell hc
  have Hrec : Hid _ := hrec
  have HR : Hid _ := hR
  clear hrec hR hc
  go_enter Try.func36, Try.ntmps36
  go_wp2_with fail
  go_quiet (fail)
  go_wp2_with fail
  refine (Hrec.out _).mono ?_
  rintro e w1 ⟨r, rfl, hr⟩
  have hr' := HR.out r w1 hr
  have c5 := (node_cell hr'.1).2.2.2.1
  have f5 := node_frozen hr'.1 5
  have Hr : Hid _ := hr
  have Hr' : Hid _ := hr'
  clear hr hr'
  go_wp2_with fail
  refine (update_any c n2 sl sr s2 p2 r pr2 _ (node_set5 Hr'.out.1 r) (Hr'.out.2.1.set _ (by decide)) (Hr'.out.2.2.set _ (by decide))).mono ?_
  rintro e w2 ⟨rfl, ho, hh⟩
  have Ho : Hid _ := ho
  have Hh : Hid _ := hh
  clear ho hh
  go_wp2_with fail
  go_ret
  exact ⟨rfl, r, w1, Hr.out, ((Only.refl (fun k => k = c) w1).setCell (fun _ => rfl) _).trans Ho.out, Hh.out⟩

section
variable {N pr : Nat → Int} {blk : Nat → Nat} {Q : Nat → Nat → Nat → Prop}

theorem drewN_heap (w : World) (n : Nat) : (w.drewN n).heap = w.heap := rfl
theorem Only.drewN (S : Nat → Prop) (w : World) (n : Nat) : Only S w (w.drewN n) := ⟨rfl, rfl, rfl, Nat.le_refl _, fun _ _ _ => rfl⟩

/-- WHAT 'merge' DOES: the trees of lo .. mid-1 and of mid .. hi-1 become one of lo .. hi-1; no other block turns. -/
theorem merge_any (hQ : ∀ lo mid hi m1 m2, lo ≤ m1 → m1 < mid → mid ≤ m2 → m2 < hi → Q lo m1 mid → Q mid m2 hi → (pr m2 < pr m1 → Q lo m1 hi) ∧ (¬ pr m2 < pr m1 → Q lo m2 hi)) (k : Nat) :
    ∀ (f1 f2 : Nat) (p q : Option Addr) (lo mid hi : Nat) (w : World), f1 + f2 ≤ k →
      (∀ i j, lo ≤ i → i < hi → lo ≤ j → j < hi → blk i = blk j → i = j) → T N pr blk Q f1 w p lo mid → T N pr blk Q f2 w q mid hi →
      Calls Try.prog 36 #[.pointer p, .pointer q] w fun e w' => ∃ r, e = .returned (.pointer r) ∧ T N pr blk Q (f1 + f2) w' r lo hi ∧ Only (fun b => ∃ i, lo ≤ i ∧ i < hi ∧ b = blk i) w w' := by
  induction k with
  | zero =>
    intro f1 f2 p q lo mid hi w hk hinj h1 h2
    obtain rfl : f1 = 0 := by omega
    obtain rfl : f2 = 0 := by omega
    obtain ⟨rfl, rfl⟩ := h1
    obtain ⟨rfl, rfl⟩ := h2
    refine (merge_nilL none w).mono ?_
    rintro e w' ⟨rfl, rfl⟩
    exact ⟨none, rfl, T.nil _ _ _, Only.refl _ _⟩
  | succ k ih =>
    intro f1 f2 p q lo mid hi w hk hinj h1 h2
    -- the left tree is empty
    have left_nil : p = none → lo = mid → Calls Try.prog 36 #[.pointer p, .pointer q] w fun e w' => ∃ r, e = .returned (.pointer r) ∧ T N pr blk Q (f1 + f2) w' r lo hi ∧ Only (fun b => ∃ i, lo ≤ i ∧ i < hi ∧ b = blk i) w w' := by
      intro hp hlo
      subst hp; subst hlo
      refine (merge_nilL q w).mono ?_
      rintro e w' ⟨rfl, rfl⟩
      exact ⟨q, rfl, h2.more (by omega), Only.refl _ _⟩
    cases f1 with
    | zero => exact left_nil h1.1 h1.2
    | succ f1 =>
      have h1' := h1
      rcases h1 with h | ⟨m1, pl1, pr1, a1, a2, a3, a4, a5, a6, a7⟩
      · exact left_nil h.1 h.2
      · subst a4
        have right_nil : q = none → mid = hi → Calls Try.prog 36 #[.pointer (some ⟨blk m1, 0, none⟩), .pointer q] w fun e w' => ∃ r, e = .returned (.pointer r) ∧ T N pr blk Q (f1 + 1 + f2) w' r lo hi ∧ Only (fun b => ∃ i, lo ≤ i ∧ i < hi ∧ b = blk i) w w' := by
          intro hq hlo
          subst hq; subst hlo
          refine (merge_nilR (blk m1) w).mono ?_
          rintro e w' ⟨rfl, rfl⟩
          exact ⟨_, rfl, h1'.more (by omega), Only.refl _ _⟩
        cases f2 with
        | zero => exact right_nil h2.1 h2.2
        | succ f2 =>
          have h2' := h2
          rcases h2 with h | ⟨m2, pl2, pr2, b1, b2, b3, b4, b5, b6, b7⟩
          · exact right_nil h.1 h.2
          · subst b4
            have hq := hQ lo mid hi m1 m2 a1 a2 b1 b2 a3 b3
            by_cases hlt : pr m2 < pr m1
            · -- the left root is higher
              refine (merge_left (blk m1) (blk m2) (pr m1) (pr m2) (N m1) (wrap64 (sm N lo (mid - lo))) (wrap64 (sm N lo (m1 - lo))) (wrap64 (sm N (m1 + 1) (hi - (m1 + 1)))) pl1 pr1 w
                (fun r w1 => T N pr blk Q (f1 + (f2 + 1)) w1 r (m1 + 1) hi ∧ Only (fun b => ∃ i, m1 + 1 ≤ i ∧ i < hi ∧ b = blk i) w w1) a5 (node_cell b5).2.2.1 hlt ?_ ?_).mono ?_
              · intro nq
                refine (ih f1 (f2 + 1) pr1 (some ⟨blk m2, 0, none⟩) (m1 + 1) mid hi (w.drewN nq) (by omega) (fun i j x1 x2 x3 x4 => hinj i j (by omega) x2 (by omega) x4) (a7.carry (fun _ _ _ => rfl)) (h2'.carry (fun _ _ _ => rfl))).mono ?_
                rintro e w1 ⟨r, he, ht, ho⟩
                exact ⟨r, he, ht, (Only.drewN _ w nq).trans ho⟩
              · rintro r w1 ⟨ht, ho⟩
                have off : ∀ i, lo ≤ i → i < m1 + 1 → ¬ ∃ j, m1 + 1 ≤ j ∧ j < hi ∧ blk i = blk j := fun i x1 x2 ⟨j, y1, y2, y3⟩ => by have := hinj i j x1 (by omega) (by omega) y2 y3; omega
                exact ⟨by rw [ho.block _ (h1'.lt m1 a1 a2) (off m1 a1 (by omega))]; exact a5, (a6.only ho (fun i x1 x2 => off i x1 (by omega))).len, ht.len⟩
              · rintro e w' ⟨rfl, r, w1, ⟨ht, ho⟩, ho2, hh⟩
                rw [wrap64_split N a1 (by omega)] at hh
                have off : ∀ i, lo ≤ i → i < m1 + 1 → ¬ ∃ j, m1 + 1 ≤ j ∧ j < hi ∧ blk i = blk j := fun i x1 x2 ⟨j, y1, y2, y3⟩ => by have := hinj i j x1 (by omega) (by omega) y2 y3; omega
                have off2 : ∀ i, lo ≤ i → i < hi → i ≠ m1 → ¬ blk i = blk m1 := fun i x1 x2 x3 y => x3 (hinj i m1 x1 x2 a1 (by omega) y)
                refine ⟨_, rfl, ?_, ?_⟩
                · refine (show T N pr blk Q (f1 + (f2 + 1) + 1) w' (some ⟨blk m1, 0, none⟩) lo hi from Or.inr ⟨m1, pl1, r, a1, by omega, hq.1 hlt, rfl, hh, ?_, ?_⟩).more (by omega)
                  · exact ((a6.only ho (fun i x1 x2 => off i x1 (by omega))).only ho2 (fun i x1 x2 => off2 i x1 (by omega) (by omega))).more (by omega)
                  · exact ht.only ho2 (fun i x1 x2 => off2 i (by omega) x2 (by omega))
                · exact (ho.weaken (fun b _ ⟨j, y1, y2, y3⟩ => ⟨j, by omega, y2, y3⟩)).trans' ho2 (fun b _ y => ⟨m1, a1, by omega, y⟩)
            · -- the right root is as high or higher
              refine (merge_right (blk m1) (blk m2) (pr m1) (pr m2) (N m2) (wrap64 (sm N mid (hi - mid))) (wrap64 (sm N lo (m2 - lo))) (wrap64 (sm N (m2 + 1) (hi - (m2 + 1)))) pl2 pr2 w
                (fun r w1 => T N pr blk Q (f1 + 1 + f2) w1 r lo m2 ∧ Only (fun b => ∃ i, lo ≤ i ∧ i < m2 ∧ b = blk i) w w1) b5 (node_cell a5).2.2.1 hlt ?_ ?_).mono ?_
              · intro nq
                refine (ih (f1 + 1) f2 (some ⟨blk m1, 0, none⟩) pl2 lo mid m2 (w.drewN nq) (by omega) (fun i j x1 x2 x3 x4 => hinj i j x1 (by omega) x3 (by omega)) (h1'.carry (fun _ _ _ => rfl)) (b6.carry (fun _ _ _ => rfl))).mono ?_
                rintro e w1 ⟨r, he, ht, ho⟩
                exact ⟨r, he, ht, (Only.drewN _ w nq).trans ho⟩
              · rintro r w1 ⟨ht, ho⟩
                have off : ∀ i, m2 ≤ i → i < hi → ¬ ∃ j, lo ≤ j ∧ j < m2 ∧ blk i = blk j := fun i x1 x2 ⟨j, y1, y2, y3⟩ => by have := hinj i j (by omega) (by omega) (by omega) (by omega) y3; omega
                exact ⟨by rw [ho.block _ (h2'.lt m2 b1 b2) (off m2 (by omega) b2)]; exact b5, ht.len, (b7.only ho (fun i x1 x2 => off i (by omega) x2)).len⟩
              · rintro e w' ⟨rfl, r, w1, ⟨ht, ho⟩, ho2, hh⟩
                rw [wrap64_split N (by omega) b2] at hh
                have off : ∀ i, m2 ≤ i → i < hi → ¬ ∃ j, lo ≤ j ∧ j < m2 ∧ blk i = blk j := fun i x1 x2 ⟨j, y1, y2, y3⟩ => by have := hinj i j (by omega) (by omega) (by omega) (by omega) y3; omega
                have off2 : ∀ i, lo ≤ i → i < hi → i ≠ m2 → ¬ blk i = blk m2 := fun i x1 x2 x3 y => x3 (hinj i m2 x1 x2 (by omega) b2 y)
                refine ⟨_, rfl, ?_, ?_⟩
                · refine (show T N pr blk Q (f1 + 1 + f2 + 1) w' (some ⟨blk m2, 0, none⟩) lo hi from Or.inr ⟨m2, r, pr2, by omega, b2, hq.2 hlt, rfl, hh, ?_, ?_⟩).more (by omega)
                  · exact ht.only ho2 (fun i x1 x2 => off2 i x1 (by omega) (by omega))
                  · exact ((b7.only ho (fun i x1 x2 => off i (by omega) x2)).only ho2 (fun i x1 x2 => off2 i (by omega) x2 (by omega))).more (by omega)
                · exact (ho.weaken (fun b _ ⟨j, y1, y2, y3⟩ => ⟨j, y1, by omega, y3⟩)).trans' ho2 (fun b _ y => ⟨m2, by omega, b2, y⟩)

/-- The forwarder. -/
theorem zzMerge_any (hQ : ∀ lo mid hi m1 m2, lo ≤ m1 → m1 < mid → mid ≤ m2 → m2 < hi → Q lo m1 mid → Q mid m2 hi → (pr m2 < pr m1 → Q lo m1 hi) ∧ (¬ pr m2 < pr m1 → Q lo m2 hi))
    (f1 f2 : Nat) (p q : Option Addr) (lo mid hi : Nat) (w : World)
    (hinj : ∀ i j, lo ≤ i → i < hi → lo ≤ j → j < hi → blk i = blk j → i = j) (h1 : T N pr blk Q f1 w p lo mid) (h2 : T N pr blk Q f2 w q mid hi) :
    Calls Try.prog 21 #[.pointer p, .pointer q] w fun e w' => ∃ r, e = .returned (.pointer r) ∧ T N pr blk Q (f1 + f2) w' r lo hi ∧ Only (fun b => ∃ i, lo ≤ i ∧ i < hi ∧ b = blk i) w w' := by
  have H : Hid _ := merge_any hQ (f1 + f2) f1 f2 p q lo mid hi w (Nat.le_refl _) hinj h1 h2
  clear hQ hinj h1 h2
  go_enter Try.func21, Try.ntmps21
  go_wp2_with fail
  refine Calls.mono H.out ?_
  rintro e w1 ⟨r, rfl, ht, ho⟩
  have Ht : Hid _ := ht
  have Ho : Hid _ := ho
  clear ht ho
  go_wp2_with fail
  go_ret
  exact ⟨r, rfl, Ht.out, Ho.out⟩
end
end Go.Proofs.Qxb6602551a

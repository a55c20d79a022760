/-
  THE WALKS of 'sumN' and 'matchesTreap'; the plain law on the last greatest key of two neighbouring intervals.
-/
import Derived.Test.Qxb6602551aFill
namespace Go.Proofs.Qxb6602551a
open Go.RowKit

/-! ### the last greatest key -/

theorem top_spec (K : Nat → Int) (lo : Nat) : ∀ k, (∀ j, lo ≤ j → j ≤ lo + k → K j ≤ K (top K lo k)) ∧ (∀ j, top K lo k < j → j ≤ lo + k → K j < K (top K lo k))
  | 0 => by
    refine ⟨fun j h1 h2 => ?_, fun j h1 h2 => ?_⟩
    · obtain rfl : j = lo := by omega
      exact Int.le_refl _
    · have h1 : lo < j := h1; omega
  | k + 1 => by
    obtain ⟨a, b⟩ := top_spec K lo k
    have hb := top_bd K lo k
    by_cases h : K (top K lo k) ≤ K (lo + k + 1)
    · have e : top K lo (k + 1) = lo + k + 1 := if_pos h
      rw [e]
      refine ⟨fun j h1 h2 => ?_, fun j h1 h2 => by omega⟩
      by_cases hj : j = lo + k + 1
      · subst hj; exact Int.le_refl _
      · have := a j h1 (by omega); omega
    · have e : top K lo (k + 1) = top K lo k := if_neg h
      rw [e]
      refine ⟨fun j h1 h2 => ?_, fun j h1 h2 => ?_⟩
      · by_cases hj : j = lo + k + 1
        · subst hj; omega
        · exact a j h1 (by omega)
      · by_cases hj : j = lo + k + 1
        · subst hj; omega
        · exact b j h1 (by omega)

theorem top_only (K : Nat → Int) (lo k m : Nat) (h1 : lo ≤ m) (h2 : m ≤ lo + k) (a : ∀ j, lo ≤ j → j ≤ lo + k → K j ≤ K m) (b : ∀ j, m < j → j ≤ lo + k → K j < K m) : m = top K lo k := by
  obtain ⟨c, d⟩ := top_spec K lo k
  have hb := top_bd K lo k
  have e1 := a (top K lo k) hb.1 hb.2
  have e2 := c m h1 h2
  by_cases hlt : m < top K lo k
  · have := b _ hlt hb.2; omega
  · by_cases hgt : top K lo k < m
    · have := d _ hgt h2; omega
    · omega

/-- The last greatest key of two neighbouring intervals: the left one's where it is greater, else the right one's. -/
theorem top_join (K : Nat → Int) (lo mid hi m1 m2 : Nat) (h1 : lo ≤ m1) (h2 : m1 < mid) (h3 : mid ≤ m2) (h4 : m2 < hi) (e1 : m1 = top K lo (mid - lo - 1)) (e2 : m2 = top K mid (hi - mid - 1)) :
    (K m2 < K m1 → m1 = top K lo (hi - lo - 1)) ∧ (¬ K m2 < K m1 → m2 = top K lo (hi - lo - 1)) := by
  obtain ⟨a1, b1⟩ := top_spec K lo (mid - lo - 1)
  obtain ⟨a2, b2⟩ := top_spec K mid (hi - mid - 1)
  rw [← e1] at a1 b1
  rw [← e2] at a2 b2
  refine ⟨fun h => top_only K lo _ m1 h1 (by omega) (fun j x y => ?_) (fun j x y => ?_), fun h => top_only K lo _ m2 (by omega) (by omega) (fun j x y => ?_) (fun j x y => ?_)⟩
  · by_cases hj : j < mid
    · exact a1 j x (by omega)
    · have := a2 j (by omega) (by omega); omega
  · by_cases hj : j < mid
    · exact b1 j x (by omega)
    · have := a2 j (by omega) (by omega); omega
  · by_cases hj : j < mid
    · have := a1 j x (by omega); omega
    · exact a2 j (by omega) (by omega)
  · exact b2 j x (by omega)

/-! ### sumN -/
theorem wrap64_step (a b : Int) : wrap64 (wrap64 a + b) = wrap64 (a + b) := by unfold wrap64; omega

set_option maxHeartbeats 400000 in
theorem sumN_nat (N : Nat → Int) (bn n c l h : Nat) (w : World) (hc : ∀ i, i < n → w.cell? ⟨bn, i, none⟩ = some (.int .i64 (N i))) (hlt : l ≤ h) (hn : h ≤ n) (hbig : n ≤ 1000000) :
    Calls Try.prog 40 #[.slice (some ⟨bn, 0, none⟩) n c, .int .i64 l, .int .i64 h] w fun e w' => e = .returned (.int .i64 (wrap64 (sm N l (h - l)))) ∧ w = w' := by
  go_enter Try.func40, Try.ntmps40
  go_wp2
  go_loop [7, 8] (fun s i => ∃ k : Nat, l + k ≤ h ∧ i = .int .i64 ((l + k : Nat) : Int) ∧ s = .int .i64 (wrap64 (sm N l k))) (fun _ i => (h - intOf i).toNat)
  case atStart => exact ⟨0, by omega, rfl, by simp [sm, wrap64]⟩
  case round =>
    obtain ⟨k, hk, rfl, rfl⟩ := hrel
    by_cases hk2 : l + k < h
    · have c1 := hc (l + k) (by omega)
      clear hc
      go_wp2
      have e1 : sm N l (k + 1) = sm N l k + N (l + k) := rfl
      exact ⟨⟨k + 1, by omega, by go_num, by rw [e1, wrap64_step]⟩, by simp [intOf]; omega⟩
    · go_wp2
      go_ret
      exact ⟨ret_int (by rw [show h - l = k by omega]), rfl⟩

theorem sumN_any (N : Nat → Int) (bn n c l h : Nat) (lo hi : Int) (w : World) (hlo : lo = l) (hhi : hi = h) (hc : ∀ i, i < n → w.cell? ⟨bn, i, none⟩ = some (.int .i64 (N i))) (hlt : l ≤ h) (hn : h ≤ n) (hbig : n ≤ 1000000) :
    Calls Try.prog 40 #[.slice (some ⟨bn, 0, none⟩) n c, .int .i64 lo, .int .i64 hi] w fun e w' => e = .returned (.int .i64 (wrap64 (sm N l (h - l)))) ∧ w = w' := by
  subst hlo; subst hhi
  exact sumN_nat N bn n c l h w hc hlt hn hbig

/-! ### matchesTreap -/
set_option maxHeartbeats 400000 in
theorem match_nil (bd bn bp n : Nat) (lo hi : Int) (w : World) (h : hi ≤ lo) :
    Calls Try.prog 22 #[.pointer none, .slice (some ⟨bn, 0, none⟩) n n, .slice (some ⟨bp, 0, none⟩) n n, .slice (some ⟨bd, 0, none⟩) n n, .int .i64 lo, .int .i64 hi] w
      fun e w' => e = .returned (.bool true) ∧ w = w' := by
  go_enter Try.func22, Try.ntmps22
  go_wp2_with fail
  go_ret
  exact ⟨rfl, rfl⟩

/-- Behind draws alone. -/
def Drawn (w w' : World) : Prop := ∃ n, w' = w.drewN n
theorem Drawn.refl (w : World) : Drawn w w := ⟨0, rfl⟩
theorem Drawn.trans {a b c : World} (h : Drawn a b) (k : Drawn b c) : Drawn a c := by
  obtain ⟨n, rfl⟩ := h
  obtain ⟨m, rfl⟩ := k
  exact ⟨n + m, by simp [World.drewN, Nat.add_assoc]⟩
theorem Drawn.heap {w w' : World} (h : Drawn w w') : w'.heap = w.heap := by obtain ⟨n, rfl⟩ := h; rfl
theorem Drawn.cell {w w' : World} (h : Drawn w w') (a : Addr) : w'.cell? a = w.cell? a := by obtain ⟨n, rfl⟩ := h; rfl

set_option maxHeartbeats 400000 in
theorem match_step (N P : Nat → Int) (blk : Nat → Nat) (bd bn bp n l h m : Nat) (pl pr : Option Addr) (w : World)
    (hlt : l < h) (hn : h ≤ n) (hbig : n ≤ 1000000) (hm : m = top P l (h - l - 1))
    (nd : w.rowIs bd 43 n (nodeAt blk)) (ns : w.rowIs bn 3 n (fun i => .int .i64 (N i))) (ps : w.rowIs bp 39 n (fun i => .int .u64 (P i)))
    (hb : w.heap[blk m]? = some (node (N m) (wrap64 (sm N l (h - l))) (P m) pl pr))
    (h1 : ∀ W, Drawn w W → Calls Try.prog 22 #[.pointer pl, .slice (some ⟨bn, 0, none⟩) n n, .slice (some ⟨bp, 0, none⟩) n n, .slice (some ⟨bd, 0, none⟩) n n, .int .i64 l, .int .i64 m] W
      fun e w' => e = .returned (.bool true) ∧ Drawn w w')
    (h2 : ∀ W, Drawn w W → Calls Try.prog 22 #[.pointer pr, .slice (some ⟨bn, 0, none⟩) n n, .slice (some ⟨bp, 0, none⟩) n n, .slice (some ⟨bd, 0, none⟩) n n, .int .i64 ((m : Int) + 1), .int .i64 h] W
      fun e w' => e = .returned (.bool true) ∧ Drawn w w') :
    Calls Try.prog 22 #[.pointer (some ⟨blk m, 0, none⟩), .slice (some ⟨bn, 0, none⟩) n n, .slice (some ⟨bp, 0, none⟩) n n, .slice (some ⟨bd, 0, none⟩) n n, .int .i64 l, .int .i64 h] w
      fun e w' => e = .returned (.bool true) ∧ Drawn w w' := by
  have hmb := top_bd P l (h - l - 1)
  rw [← hm] at hmb
  have hmn : m < n := by omega
  clear hmb
  have Hm : Hid _ := hm
  have H1 : Hid _ := h1
  have H2 : Hid _ := h2
  have Ns : Hid _ := ns
  have Ps : Hid _ := ps
  have Nd : Hid _ := nd
  have Hb : Hid _ := hb
  clear hm h1 h2 ns ps nd hb
  have hneq := neq_same
  go_enter Try.func22, Try.ntmps22
  go_wp2_with fail
  refine (topIndex_any P bp n n l h _ _ _ rfl rfl (fun i hi => World.rowIs.cell Ps.out hi) hlt hn hbig).mono ?_
  rintro e w1 ⟨rfl, hw1⟩
  have D1 : Drawn w w1 := hw1
  clear hw1
  rw [← Hm.out]
  obtain ⟨k1, k3, k4, k5, k6⟩ := node_cell (w := w1) (by rw [D1.heap]; exact Hb.out)
  have c1 : w1.cell? ⟨bd, m, none⟩ = some (.pointer (some ⟨blk m, 0, none⟩)) := by rw [D1.cell]; exact World.rowIs.cell Nd.out hmn
  have c2 : w1.cell? ⟨bn, m, none⟩ = some (.int .i64 (N m)) := by rw [D1.cell]; exact World.rowIs.cell Ns.out hmn
  have c3 : w1.cell? ⟨bp, m, none⟩ = some (.int .u64 (P m)) := by rw [D1.cell]; exact World.rowIs.cell Ps.out hmn
  go_wp2_with fail
  go_quiet ((first | (go_at_call 37; exact Calls.quiet_of_same (nodeN_any (blk m) (N m) _ (by exact k1))) | (go_at_call 38; exact Calls.quiet_of_same (nodePriority_any (blk m) (P m) _ (by exact k4)))))
  go_wp2_with fail
  refine (nodeSpan_any (blk m) _ _ (by exact k3)).mono ?_
  rintro e w' ⟨rfl, hw'⟩
  subst hw'
  go_wp2_with fail
  refine (sumN_any N bn n n l h _ _ _ rfl rfl (by exact fun i hi => (D1.cell _).trans (World.rowIs.cell Ns.out hi)) (by omega) hn hbig).mono ?_
  rintro e w' ⟨rfl, rfl⟩
  go_wp2_with fail
  refine (nodeLeft_any (blk m) pl _ (by exact k5)).mono ?_
  rintro e w' ⟨rfl, hw'⟩
  subst hw'
  go_wp2_with fail
  refine Calls.mono (H1.out _ (D1.trans ⟨_, rfl⟩)) ?_
  rintro e w2 ⟨rfl, D2⟩
  clear k1 k3 k4 k5 c1 c2 c3
  have k6 : w2.cell? ⟨blk m, 6, none⟩ = some (.pointer pr) := by rw [D2.cell, ← D1.cell]; exact k6
  go_wp2_with fail
  refine (nodeRight_any (blk m) pr _ k6).mono ?_
  rintro e w' ⟨rfl, hw'⟩
  subst hw'
  go_wp2_with fail
  refine Calls.mono (H2.out _ D2) ?_
  rintro e w3 ⟨rfl, D3⟩
  go_wp2_with fail
  go_ret
  exact ⟨rfl, D3⟩

/-- WHAT 'matchesTreap' ANSWERS at the treap of an interval. -/
theorem match_any (N P : Nat → Int) (blk : Nat → Nat) (bd bn bp n : Nat) (hbig : n ≤ 1000000) (f : Nat) :
    ∀ (p : Option Addr) (l h : Nat) (lo hi : Int) (w : World), lo = l → hi = h → T N P blk (fun lo m hi => m = top P lo (hi - lo - 1)) f w p l h → h ≤ n →
    w.rowIs bd 43 n (nodeAt blk) → w.rowIs bn 3 n (fun i => .int .i64 (N i)) → w.rowIs bp 39 n (fun i => .int .u64 (P i)) →
    Calls Try.prog 22 #[.pointer p, .slice (some ⟨bn, 0, none⟩) n n, .slice (some ⟨bp, 0, none⟩) n n, .slice (some ⟨bd, 0, none⟩) n n, .int .i64 lo, .int .i64 hi] w
      fun e w' => e = .returned (.bool true) ∧ Drawn w w' := by
  have base : ∀ (p : Option Addr) (l h : Nat) (lo hi : Int) (w : World), lo = l → hi = h → p = none → l = h →
      Calls Try.prog 22 #[.pointer p, .slice (some ⟨bn, 0, none⟩) n n, .slice (some ⟨bp, 0, none⟩) n n, .slice (some ⟨bd, 0, none⟩) n n, .int .i64 lo, .int .i64 hi] w
        fun e w' => e = .returned (.bool true) ∧ Drawn w w' := by
    intro p l h lo hi w e1 e2 e3 e4
    subst e3
    refine (match_nil bd bn bp n lo hi w (by omega)).mono ?_
    rintro e w' ⟨rfl, rfl⟩
    exact ⟨rfl, Drawn.refl _⟩
  induction f with
  | zero =>
    intro p l h lo hi w e1 e2 ht hn nd ns ps
    exact base p l h lo hi w e1 e2 ht.1 ht.2
  | succ f ih =>
    intro p l h lo hi w e1 e2 ht hn nd ns ps
    rcases ht with h0 | ⟨m, pl, pr, a1, a2, a3, a4, a5, a6, a7⟩
    · exact base p l h lo hi w e1 e2 h0.1 h0.2
    · subst a4; subst e1; subst e2
      have row : ∀ {W b t n F}, Drawn w W → w.rowIs b t n F → W.rowIs b t n F := fun d r => r.of_block (by rw [d.heap])
      refine match_step N P blk bd bn bp n l h m pl pr w (by omega) hn hbig a3 nd ns ps a5 (fun W d => ?_) (fun W d => ?_)
      · refine (ih pl l m l m W rfl rfl (a6.carry (fun _ _ _ => by rw [d.heap])) (by omega) (row d nd) (row d ns) (row d ps)).mono ?_
        rintro e w' ⟨he, d'⟩
        exact ⟨he, d.trans d'⟩
      · refine (ih pr (m + 1) h _ h W (by simp) rfl (a7.carry (fun _ _ _ => by rw [d.heap])) hn (row d nd) (row d ns) (row d ps)).mono ?_
        rintro e w' ⟨he, d'⟩
        exact ⟨he, d.trans d'⟩
end Go.Proofs.Qxb6602551a

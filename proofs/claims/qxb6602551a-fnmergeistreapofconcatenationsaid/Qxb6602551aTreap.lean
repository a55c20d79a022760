/-
  THE WALK of 'FnMergeIsTreapOfConcatenation'.
-/
import Derived.Test.Qxb6602551aMatch
namespace Go.Proofs.Qxb6602551a
open Go.RowKit

/-! ### the bound on the total length, laid by program -/
set_option maxHeartbeats 400000 in
theorem zz19_yes (a0 a1 : Option Addr) (l0 c0 l1 c1 : Nat) (w : World) (h : l0 + l1 ≤ 1048576) :
    Calls Try.prog 19 #[.slice a0 l0 c0, .slice a1 l1 c1] w fun e w' => e = .returned (.bool true) ∧ w = w' := by
  go_enter Try.func19, Try.ntmps19
  go_wp2
  go_ret
  exact ⟨rfl, rfl⟩

set_option maxHeartbeats 400000 in
theorem zz19_no (a0 a1 : Option Addr) (l0 c0 l1 c1 : Nat) (w : World) (h : ¬ l0 + l1 ≤ 1048576) (hl : l0 ≤ maxLen) (hl' : l1 ≤ maxLen) :
    Calls Try.prog 19 #[.slice a0 l0 c0, .slice a1 l1 c1] w fun e w' => e = .returned (.bool false) ∧ w' = w := by
  unfold maxLen at hl hl'
  by_cases h1 : (1048576 : Int) < l0
  · go_enter Try.func19, Try.ntmps19
    go_wp2
    go_ret
    exact ⟨rfl, rfl⟩
  · by_cases h2 : (1048576 : Int) < l1
    · go_enter Try.func19, Try.ntmps19
      go_wp2
      go_ret
      exact ⟨rfl, rfl⟩
    · go_enter Try.func19, Try.ntmps19
      go_wp2
      go_ret
      exact ⟨rfl, rfl⟩

/-- What a slice of two-field elements that came in holds. -/
def Src2 (w : World) (a : Option Addr) (l : Nat) (A P : Nat → Int) : Prop :=
  l = 0 ∨ ∃ b off, a = some ⟨b, off, none⟩ ∧ b < w.heap.size ∧ ∀ i, i < l →
    w.cell? ⟨b, off + i * 2, none⟩ = some (.int .i64 (A i)) ∧ w.cell? ⟨b, off + i * 2 + 1, none⟩ = some (.int .u64 (P i))

structure Rows2 (N P : Nat → Int) (B n k : Nat) (w wr : World) : Prop where
  below : Below B w wr
  size : wr.heap.size = B + 1 + 1
  ns : wr.rowIs B 3 n (fill .i64 N k)
  prios : wr.rowIs (B + 1) 39 n (fill .u64 P k)

theorem Rows2.step {N P : Nat → Int} {B n k : Nat} {w wr : World} (h : Rows2 N P B n k w wr) :
    Rows2 N P B n (k + 1) w ((wr.setCell ⟨B, k, none⟩ (.int .i64 (N k))).setCell ⟨B + 1, k, none⟩ (.int .u64 (P k))) where
  below := (h.below.setCell (Nat.le_refl _) _).setCell (by simp) _
  size := by simpa using h.size
  ns := (fill_step h.ns).setOther (by simp) _
  prios := fill_step (h.prios.setOther (by simp) _)

theorem Rows2.start (N P : Nat → Int) (n : Nat) (w : World) :
    Rows2 N P w.heap.size n 0 w ((w.alloc (.cells (madeCells #[.int .i64 0] n) 3)).alloc (.cells (madeCells #[.int .u64 0] n) 39)) where
  below := ((Below.refl _ w).alloc (Nat.le_refl _) _).alloc (by simp) _
  size := by simp
  ns := ((World.rowIs_made w (.int .i64 0) n 3).alloc _).congr (fun i _ => by simp [fill])
  prios := by
    have := World.rowIs_made (w.alloc (.cells (madeCells #[.int .i64 0] n) 3)) (.int .u64 0) n 39
    simp only [World.size_alloc] at this
    exact this.congr (fun i _ => by simp [fill])

theorem Rows2.given {N P : Nat → Int} {B n : Nat} {w wr : World} (h : Rows2 N P B n n w wr) :
    Given N P P B (B + 1) (B + 1) (B + 1 + 1) n (wr.alloc (.cells (madeCells #[.pointer none] n) 43)) ∧ (wr.alloc (.cells (madeCells #[.pointer none] n) 43)).rowIs (B + 1 + 1) 43 n (fun _ => .pointer none) := by
  refine ⟨⟨(h.ns.congr (fun i hi => by simp [fill, hi])).alloc _, (h.prios.congr (fun i hi => by simp [fill, hi])).alloc _, (h.prios.congr (fun i hi => by simp [fill, hi])).alloc _, by omega, by omega, by omega⟩, ?_⟩
  have := World.rowIs_made wr (.pointer none) n 43
  rw [h.size] at this
  exact this

set_option maxHeartbeats 1000000 in
theorem top6_small (a0 a1 : Option Addr) (l0 c0 l1 c1 : Nat) (N P : Nat → Int) (w : World) (h : l0 + l1 ≤ 1048576) (h0 : l0 ≤ 4096) (h1 : l1 ≤ 4096)
    (s0 : Src2 w a0 l0 N P) (s1 : Src2 w a1 l1 (fun i => N (l0 + i)) (fun i => P (l0 + i))) :
    Calls Try.prog 6 #[.slice a0 l0 c0, .slice a1 l1 c1] w fun e w' => e = .returned (.bool true) ∧ Below w.heap.size w w' := by
  have ec : ((l0 + l1 : Nat) : Int) = (l0 : Int) + l1 := by omega
  have mk37 := run_make_row' (P := Try.prog) 37 3 (.int .i64 0) 8 Try.underlying37 Try.info3 rfl .i64 .i64 (l0 + l1) (by omega) (by omega)
  have mk38 := run_make_row' (P := Try.prog) 38 39 (.int .u64 0) 8 Try.underlying38 Try.info39 rfl .i64 .i64 (l0 + l1) (by omega) (by omega)
  have mk42 := run_make_row' (P := Try.prog) 42 43 (.pointer none) 8 Try.underlying42 Try.info43 rfl .i64 .i64 (l0 + l1) (by omega) (by omega)
  rw [ec] at mk37 mk38 mk42
  clear ec
  have S0 : Hid _ := s0
  have S1 : Hid _ := s1
  clear s0 s1
  go_enter Try.func6, Try.ntmps6
  go_wp2_with (go_at_call 19; refine (zz19_yes _ _ _ _ _ _ _ h).mono ?_; rintro e w' ⟨rfl, rfl⟩)
  clear mk37 mk38
  go_loopw [8] (fun i wr => ∃ k : Nat, k ≤ l0 ∧ i = .int .i64 k ∧ Rows2 N P w.heap.size (l0 + l1) k w wr) (fun i _ => (l0 - intOf i).toNat)
  case atStart => exact ⟨0, Nat.zero_le _, rfl, Rows2.start N P (l0 + l1) w⟩
  case round =>
    obtain ⟨k, hk, rfl, hR⟩ := hrel
    by_cases hlt : k < l0
    · have hlt' : (k : Int) < l0 := by omega
      rcases S0.out with hz | ⟨b, off, ha, hb, hc⟩
      · omega
      subst ha
      obtain ⟨d1, d2⟩ := hc k hlt
      rw [← hR.below.cell hb] at d1 d2
      have f1 := hR.ns.frozen k
      have f3 := hR.prios.frozen k
      have c1 := hR.ns.cell (i := k) (by omega)
      have c3 := hR.prios.cell (i := k) (by omega)
      have g2 : ∀ v, (wr.setCell ⟨w.heap.size, k, none⟩ v).cell? ⟨b, off + k * 2 + 1, none⟩ = some (.int .u64 (P k)) := fun v => by
        rw [World.cell?_setCell_far _ _ _ _ (Nat.ne_of_gt hb)]; exact d2
      have HR : Hid _ := hR
      clear hR hc d2
      go_wp2_with fail
      exact ⟨⟨k + 1, by omega, by go_num, HR.out.step⟩, by simp [intOf]; omega⟩
    · obtain rfl : l0 = k := by omega
      obtain ⟨wo, rfl⟩ : ∃ wo : World, wo = wr := ⟨_, rfl⟩
      have HR : Hid _ := hR
      clear hR hk hlt S0
      go_wp2_with fail
      go_loopw [9] (fun i wr => ∃ k : Nat, k ≤ l1 ∧ i = .int .i64 k ∧ Rows2 N P w.heap.size (l0 + l1) (l0 + k) w wr) (fun i _ => (l1 - intOf i).toNat)
      case atStart => exact ⟨0, Nat.zero_le _, rfl, HR.out⟩
      case round =>
        clear HR
        obtain ⟨k, hk, rfl, hR⟩ := hrel
        by_cases hlt : k < l1
        · have hlt' : (k : Int) < l1 := by omega
          rcases S1.out with hz | ⟨b, off, ha, hb, hc⟩
          · omega
          subst ha
          obtain ⟨d1, d2⟩ := hc k hlt
          rw [← hR.below.cell hb] at d1 d2
          have f1 := hR.ns.frozen (l0 + k)
          have f3 := hR.prios.frozen (l0 + k)
          have c1 := hR.ns.cell (i := l0 + k) (by omega)
          have c3 := hR.prios.cell (i := l0 + k) (by omega)
          have g2 : ∀ v, (wr.setCell ⟨w.heap.size, l0 + k, none⟩ v).cell? ⟨b, off + k * 2 + 1, none⟩ = some (.int .u64 (P (l0 + k))) := fun v => by
            rw [World.cell?_setCell_far _ _ _ _ (Nat.ne_of_gt hb)]; exact d2
          have HR : Hid _ := hR
          clear hR hc d2
          go_wp2_with fail
          exact ⟨⟨k + 1, by omega, by go_num, HR.out.step⟩, by simp [intOf]; omega⟩
        · obtain rfl : l1 = k := by omega
          obtain ⟨w2, rfl⟩ : ∃ w2 : World, w2 = wr := ⟨_, rfl⟩
          have hsz := hR.size
          have HR : Hid _ := hR
          clear hR hk hlt S1
          go_wp2_with fail
          have hgv := HR.out.given
          have Hgv : Hid _ := hgv
          clear hgv
          refine (build_any N P P _ _ _ _ (l0 + l1) (by omega) l0 0 l0 _ _ (fun _ => .pointer none) _ (by simp) rfl (by omega) (by omega) (by omega) Hgv.out.1 Hgv.out.2).mono ?_
          rintro e w4 ⟨g, p, rfl, hb1⟩
          have Hb1 : Hid _ := hb1
          clear hb1 hsz mk42
          go_wp2_with fail
          refine (build_any N P P _ _ _ _ (l0 + l1) (by omega) l1 l0 (l0 + l1) _ _ _ _ rfl (by omega) (by omega) (by omega) (by omega) (Hgv.out.1.only Hb1.out.only) Hb1.out.nodes).mono ?_
          rintro e w5 ⟨g', q, rfl, hb2⟩
          obtain ⟨blk, t1, t2, inj, fr, nd, gv, on⟩ := both_built Hgv.out.1 Hgv.out.2.lt Hb1.out hb2
          have T1 : Hid _ := t1
          have T2 : Hid _ := t2
          have Inj : Hid _ := inj
          have Fr : Hid _ := fr
          have Nd : Hid _ := nd
          have Gv : Hid _ := gv
          have On : Hid _ := on
          clear hb2 t1 t2 inj fr nd gv on Hb1
          go_wp2_with fail
          refine (zzMerge_any (Q := fun lo m hi => m = top P lo (hi - lo - 1)) (top_join P) _ _ p q 0 l0 (l0 + l1) _ Inj.out T1.out T2.out).mono ?_
          rintro e w6 ⟨r, rfl, t3, o3⟩
          have T3 : Hid _ := t3
          have O3 : Hid _ := o3
          clear t3 o3
          go_wp2_with fail
          have hsz2 : (w2.alloc (.cells (madeCells #[.pointer none] (l0 + l1)) 43)).heap.size = w.heap.size + 1 + 1 + 1 := by rw [World.size_alloc, HR.out.size]
          have mg := merged (L := w.heap.size + 1 + 1 + 1) Gv.out Nd.out ⟨by omega, by omega, by omega, by omega⟩ (fun i hi => by have := (Fr.out i hi).1; omega) O3.out
          have Mg : Hid _ := mg
          clear mg hsz2
          refine (match_any N P blk _ _ _ (l0 + l1) (by omega) _ r 0 (l0 + l1) 0 _ _ rfl (by omega) T3.out (by omega) Mg.out.2 Mg.out.1.ns Mg.out.1.prios).mono ?_
          rintro e w8 ⟨rfl, d8⟩
          have D8 : Hid _ := d8
          clear d8
          go_wp2_with fail
          go_ret
          refine ⟨rfl, ?_⟩
          have s2 := HR.out.size
          have s4 := On.out.size
          rw [World.size_alloc] at s4
          obtain ⟨nq, rfl⟩ := D8.out
          refine below_drewN (((HR.out.below.alloc (by omega) _).trans (On.out.below (by rw [World.size_alloc]; omega) (fun k hk => by omega))).trans (O3.out.below (by omega) (fun k ⟨i, _, hi, e⟩ => ?_))) nq
          have := (Fr.out i hi).1
          rw [World.size_alloc] at this
          omega

theorem top6_zz (a0 a1 : Option Addr) (l0 c0 l1 c1 : Nat) (w : World) (h : ¬ l0 + l1 ≤ 1048576) (hl : l0 ≤ maxLen) (hl' : l1 ≤ maxLen) :
    Calls Try.prog 6 #[.slice a0 l0 c0, .slice a1 l1 c1] w fun e w' => e = .returned (.bool true) ∧ Below w.heap.size w w' := by
  go_enter Try.func6, Try.ntmps6
  go_wp2_with (go_at_call 19; refine (zz19_no _ _ _ _ _ _ _ h hl hl').mono ?_; rintro e w' ⟨rfl, rfl⟩)
  go_ret
  exact ⟨rfl, Below.refl _ _⟩

theorem top6_long0 (a0 a1 : Option Addr) (l0 c0 l1 c1 : Nat) (w : World) (h : l0 + l1 ≤ 1048576) (h0 : ¬ l0 ≤ 4096) :
    Calls Try.prog 6 #[.slice a0 l0 c0, .slice a1 l1 c1] w fun e w' => e = .returned (.bool true) ∧ Below w.heap.size w w' := by
  have h0' : (4096 : Int) < l0 := by omega
  go_enter Try.func6, Try.ntmps6
  go_wp2_with (go_at_call 19; refine (zz19_yes _ _ _ _ _ _ _ h).mono ?_; rintro e w' ⟨rfl, rfl⟩)
  go_ret
  exact ⟨rfl, Below.refl _ _⟩

theorem top6_long1 (a0 a1 : Option Addr) (l0 c0 l1 c1 : Nat) (w : World) (h : l0 + l1 ≤ 1048576) (h0 : l0 ≤ 4096) (h1 : ¬ l1 ≤ 4096) :
    Calls Try.prog 6 #[.slice a0 l0 c0, .slice a1 l1 c1] w fun e w' => e = .returned (.bool true) ∧ Below w.heap.size w w' := by
  have h1' : (4096 : Int) < l1 := by omega
  go_enter Try.func6, Try.ntmps6
  go_wp2_with (go_at_call 19; refine (zz19_yes _ _ _ _ _ _ _ h).mono ?_; rintro e w' ⟨rfl, rfl⟩)
  go_ret
  exact ⟨rfl, Below.refl _ _⟩

theorem Src2.congr {w : World} {a : Option Addr} {l : Nat} {A P A' P' : Nat → Int} (h : Src2 w a l A P) (e : ∀ i, i < l → A i = A' i ∧ P i = P' i) : Src2 w a l A' P' := by
  rcases h with h | ⟨b, off, ha, hb, hc⟩
  · exact Or.inl h
  · refine Or.inr ⟨b, off, ha, hb, fun i hi => ?_⟩
    obtain ⟨e1, e2⟩ := e i hi
    rw [← e1, ← e2]
    exact hc i hi

/-- Two functions laid end to end. -/
def cat2 (l : Nat) (A B : Nat → Int) (i : Nat) : Int := if i < l then A i else B (i - l)
theorem cat2_left {l : Nat} {A B : Nat → Int} {i : Nat} (h : i < l) : A i = cat2 l A B i := by rw [cat2, if_pos h]
theorem cat2_right {l : Nat} {A B : Nat → Int} (i : Nat) : B i = cat2 l A B (l + i) := by rw [cat2, if_neg (by omega), Nat.add_sub_cancel_left]

/-- THE LAW RETURNS TRUE, whatever it is handed; nothing that was there has turned. -/
theorem treap_walk (a0 a1 : Option Addr) (l0 c0 l1 c1 : Nat) (A0 P0 A1 P1 : Nat → Int) (w : World) (hl : l0 ≤ maxLen) (hl' : l1 ≤ maxLen) (s0 : Src2 w a0 l0 A0 P0) (s1 : Src2 w a1 l1 A1 P1) :
    Calls Try.prog 6 #[.slice a0 l0 c0, .slice a1 l1 c1] w fun e w' => e = .returned (.bool true) ∧ Below w.heap.size w w' := by
  by_cases h : l0 + l1 ≤ 1048576
  · by_cases h0 : l0 ≤ 4096
    · by_cases h1 : l1 ≤ 4096
      · exact top6_small a0 a1 l0 c0 l1 c1 (cat2 l0 A0 A1) (cat2 l0 P0 P1) w h h0 h1 (s0.congr (fun i hi => ⟨cat2_left hi, cat2_left hi⟩)) (s1.congr (fun i _ => ⟨cat2_right i, cat2_right i⟩))
      · exact top6_long1 a0 a1 l0 c0 l1 c1 w h h0 h1
    · exact top6_long0 a0 a1 l0 c0 l1 c1 w h h0
  · exact top6_zz a0 a1 l0 c0 l1 c1 w h hl hl'
end Go.Proofs.Qxb6602551a

/-
  THE WALK of 'walkInOrder': a tree of an interval is listed in order, its spans hold.
-/
import Derived.Test.Qxb6602551aBuild
import Derived.Lib.Builder
namespace Go.Proofs.Qxb6602551a
open Go.RowKit

set_option maxHeartbeats 400000 in
theorem walk_nil (bd bn bp bq n : Nat) (d : Int) (w : World) :
    Calls Try.prog 24 #[.pointer none, .slice (some ⟨bd, 0, none⟩) n n, .slice (some ⟨bn, 0, none⟩) n n, .slice (some ⟨bp, 0, none⟩) n n, .pointer (some ⟨bq, 0, none⟩), .int .i64 d] w
      fun e w' => e = .returned (.tuple #[.bool true, .int .i64 0]) ∧ w' = w := by
  go_enter Try.func24, Try.ntmps24
  go_wp2_with fail
  go_ret2
  exact ⟨rfl, rfl⟩

/-- What 'walkInOrder' reads, and the place that it writes. -/
structure Seen (N P : Nat → Int) (blk : Nat → Nat) (bd bn bp bq n : Nat) (x : Int) (w : World) : Prop where
  nodes : w.rowIs bd 43 n (nodeAt blk)
  ns : w.rowIs bn 3 n (fun i => .int .i64 (N i))
  prios : w.rowIs bp 39 n (fun i => .int .u64 (P i))
  pos : w.heap[bq]? = some (.cells #[.int .i64 x] 3 (0, 0))

theorem Seen.posCell {N P : Nat → Int} {blk : Nat → Nat} {bd bn bp bq n : Nat} {x : Int} {w : World} (h : Seen N P blk bd bn bp bq n x w) : w.cell? ⟨bq, 0, none⟩ = some (.int .i64 x) ∧ w.frozen? ⟨bq, 0, none⟩ = false := by
  simp [World.cell?, World.frozen?, h.pos]

theorem ret_bi {t : Bool} {a b : Int} (h : a = b) : Ending.returned (.tuple #[.bool t, .int .i64 a]) = .returned (.tuple #[.bool t, .int .i64 b]) := by rw [h]

theorem info81 : (Try.prog.info? 81).isSome = true := by kernel_rfl

/-- Two pointers that are one: '!=' says no. -/
theorem neq_same (w : World) (a : Addr) : (binOp .neq 43 (.pointer (some a)) (.pointer (some a))).run Try.prog w = .ok (.bool false) w := by
  obtain ⟨j, hj⟩ := Option.isSome_iff_exists.1 info81
  exact Lib.run_neq_ptr_same w a Try.underlying43 hj

set_option maxHeartbeats 400000 in
theorem walk_step (N P : Nat → Int) (blk : Nat → Nat) (bd bn bp bq n m : Nat) (d sl sr s : Int) (pl pr : Option Addr) (w : World) (R1 : World → Prop) (R2 : World → World → Prop)
    (hd0 : 0 ≤ d) (hd : d < n) (hmn : m < n) (hbig : n ≤ 1000000)
    (hb : w.heap[blk m]? = some (node (N m) s (P m) pl pr)) (hs : s = wrap64 (wrap64 (sl + N m) + sr))
    (h1 : Calls Try.prog 24 #[.pointer pl, .slice (some ⟨bd, 0, none⟩) n n, .slice (some ⟨bn, 0, none⟩) n n, .slice (some ⟨bp, 0, none⟩) n n, .pointer (some ⟨bq, 0, none⟩), .int .i64 (d + 1)] w
      fun e w1 => e = .returned (.tuple #[.bool true, .int .i64 sl]) ∧ R1 w1)
    (hR1 : ∀ w1, R1 w1 → Seen N P blk bd bn bp bq n m w1 ∧ w1.heap[blk m]? = some (node (N m) s (P m) pl pr) ∧ blk m ≠ bq)
    (h2 : ∀ w1 nq, R1 w1 → Calls Try.prog 24 #[.pointer pr, .slice (some ⟨bd, 0, none⟩) n n, .slice (some ⟨bn, 0, none⟩) n n, .slice (some ⟨bp, 0, none⟩) n n, .pointer (some ⟨bq, 0, none⟩), .int .i64 (d + 1)] ((w1.drewN nq).setCell ⟨bq, 0, none⟩ (.int .i64 ((m : Int) + 1)))
      fun e w2 => e = .returned (.tuple #[.bool true, .int .i64 sr]) ∧ R2 w1 w2)
    (hR2 : ∀ w1 w2, R1 w1 → R2 w1 w2 → w2.cell? ⟨bn, m, none⟩ = some (.int .i64 (N m)) ∧ w2.cell? ⟨blk m, 3, none⟩ = some (.int .i64 s)) :
    Calls Try.prog 24 #[.pointer (some ⟨blk m, 0, none⟩), .slice (some ⟨bd, 0, none⟩) n n, .slice (some ⟨bn, 0, none⟩) n n, .slice (some ⟨bp, 0, none⟩) n n, .pointer (some ⟨bq, 0, none⟩), .int .i64 d] w
      fun e w' => e = .returned (.tuple #[.bool true, .int .i64 s]) ∧ ∃ w1, R1 w1 ∧ R2 w1 w' := by
  obtain ⟨k1, k3, k4, k5, k6⟩ := node_cell hb
  have Hs : Hid _ := hs
  have H1 : Hid _ := h1
  have HR1 : Hid _ := hR1
  have H2 : Hid _ := h2
  have HR2 : Hid _ := hR2
  clear h1 hR1 h2 hR2 hs hb
  go_enter Try.func24, Try.ntmps24
  go_wp2_with fail
  refine (nodeLeft_any (blk m) pl _ k5).mono ?_
  rintro e w' ⟨rfl, rfl⟩
  go_wp2_with fail
  refine Calls.mono H1.out ?_
  rintro e w1 ⟨rfl, hr1⟩
  obtain ⟨sn, hb1, hne⟩ := HR1.out w1 hr1
  obtain ⟨q1, q2⟩ := sn.posCell
  obtain ⟨g1, g3, g4, g5, g6⟩ := node_cell hb1
  have c1 : w1.cell? ⟨bd, m, none⟩ = some (.pointer (some ⟨blk m, 0, none⟩)) := sn.nodes.cell hmn
  have c2 := sn.ns.cell hmn
  have c3 := sn.prios.cell hmn
  clear k1 k3 k4 k5 k6
  have Hr1 : Hid _ := hr1
  have Sn : Hid _ := sn
  clear hr1 sn hb1
  have hneq := neq_same
  go_wp2_with fail
  go_quiet ((first | (go_at_call 37; exact Calls.quiet_of_same (nodeN_any _ _ _ (by assumption))) | (go_at_call 38; exact Calls.quiet_of_same (nodePriority_any _ _ _ (by assumption)))))
  go_wp2_with fail
  refine (nodeRight_any (blk m) pr _ (by rw [World.cell?_setCell_far _ _ _ _ (Ne.symm hne)]; exact g6)).mono ?_
  rintro e w' ⟨rfl, rfl⟩
  go_wp2_with fail
  refine Calls.mono (H2.out w1 nq Hr1.out) ?_
  rintro e w2 ⟨rfl, hr2⟩
  obtain ⟨u1, u2⟩ := HR2.out w1 w2 Hr1.out hr2
  have Hr2 : Hid _ := hr2
  clear hr2 q1 q2 g1 g3 g4 g5 g6 c1 c2 c3
  go_wp2_with fail
  refine (nodeSpan_any (blk m) s _ u2).mono ?_
  rintro e w' ⟨rfl, rfl⟩
  have eq : (s != wrap64 (wrap64 (sl + N m) + sr)) = false := by rw [Hs.out]; simp
  go_wp2_with fail
  go_ret2
  exact ⟨ret_bi Hs.out.symm, w1, Hr1.out, Hr2.out⟩

theorem Seen.set {N P : Nat → Int} {blk : Nat → Nat} {bd bn bp bq n : Nat} {x : Int} {w : World} (h : Seen N P blk bd bn bp bq n x w) (hne : bd ≠ bq ∧ bn ≠ bq ∧ bp ≠ bq) (y : Int) :
    Seen N P blk bd bn bp bq n y (w.setCell ⟨bq, 0, none⟩ (.int .i64 y)) :=
  ⟨h.nodes.setOther hne.1 _, h.ns.setOther hne.2.1 _, h.prios.setOther hne.2.2 _, by simp [World.setCell, Array.getElem?_modify, h.pos]⟩

/-- WHAT 'walkInOrder' DOES at a tree of an interval. -/
theorem walk_any (N P : Nat → Int) (blk : Nat → Nat) (Q : Nat → Nat → Nat → Prop) (bd bn bp bq n : Nat) (hbig : n ≤ 1000000) (hne : bd ≠ bq ∧ bn ≠ bq ∧ bp ≠ bq) (hblk : ∀ i, i < n → blk i ≠ bq) (f : Nat) :
    ∀ (p : Option Addr) (lo hi : Nat) (d x : Int) (w : World), x = lo → T N P blk Q f w p lo hi → hi ≤ n → 0 ≤ d → d + (hi - lo : Nat) ≤ n → Seen N P blk bd bn bp bq n x w →
    Calls Try.prog 24 #[.pointer p, .slice (some ⟨bd, 0, none⟩) n n, .slice (some ⟨bn, 0, none⟩) n n, .slice (some ⟨bp, 0, none⟩) n n, .pointer (some ⟨bq, 0, none⟩), .int .i64 d] w
      fun e w' => e = .returned (.tuple #[.bool true, .int .i64 (wrap64 (sm N lo (hi - lo)))]) ∧ Seen N P blk bd bn bp bq n hi w' ∧ Only (fun k => k = bq) w w' := by
  have base : ∀ (p : Option Addr) (lo hi : Nat) (d x : Int) (w : World), x = lo → p = none → lo = hi → Seen N P blk bd bn bp bq n x w →
      Calls Try.prog 24 #[.pointer p, .slice (some ⟨bd, 0, none⟩) n n, .slice (some ⟨bn, 0, none⟩) n n, .slice (some ⟨bp, 0, none⟩) n n, .pointer (some ⟨bq, 0, none⟩), .int .i64 d] w
        fun e w' => e = .returned (.tuple #[.bool true, .int .i64 (wrap64 (sm N lo (hi - lo)))]) ∧ Seen N P blk bd bn bp bq n hi w' ∧ Only (fun k => k = bq) w w' := by
    intro p lo hi d x w hx hp hl hs
    subst hx; subst hp; subst hl
    refine (walk_nil bd bn bp bq n d w).mono ?_
    rintro e w' ⟨rfl, rfl⟩
    exact ⟨by simp [sm, wrap64], hs, Only.refl _ _⟩
  induction f with
  | zero =>
    intro p lo hi d x w hx ht hhi hd hdn hs
    exact base p lo hi d x w hx ht.1 ht.2 hs
  | succ f ih =>
    intro p lo hi d x w hx ht hhi hd hdn hs
    rcases ht with h | ⟨m, pl, pr, a1, a2, a3, a4, a5, a6, a7⟩
    · exact base p lo hi d x w hx h.1 h.2 hs
    · subst a4
      subst hx
      have hm : m < n := by omega
      refine (walk_step N P blk bd bn bp bq n m d (wrap64 (sm N lo (m - lo))) (wrap64 (sm N (m + 1) (hi - (m + 1)))) (wrap64 (sm N lo (hi - lo))) pl pr w
        (fun w1 => Seen N P blk bd bn bp bq n m w1 ∧ Only (fun k => k = bq) w w1) (fun w1 w2 => Seen N P blk bd bn bp bq n hi w2 ∧ Only (fun k => k = bq) w1 w2)
        hd (by omega) hm hbig a5 (wrap64_split N a1 a2).symm ?_ ?_ ?_ ?_).mono ?_
      · exact ih pl lo m (d + 1) lo w rfl a6 (by omega) (by omega) (by omega) hs
      · rintro w1 ⟨hs1, ho1⟩
        exact ⟨hs1, by rw [ho1.block _ (Array.getElem?_eq_some_iff.1 a5).1 (hblk m hm)]; exact a5, hblk m hm⟩
      · rintro w1 nq ⟨hs1, ho1⟩
        have hs2 : Seen N P blk bd bn bp bq n ((m : Int) + 1) ((w1.drewN nq).setCell ⟨bq, 0, none⟩ (.int .i64 ((m : Int) + 1))) :=
          (show Seen N P blk bd bn bp bq n m (w1.drewN nq) from ⟨hs1.nodes, hs1.ns, hs1.prios, hs1.pos⟩).set hne _
        have o2 : Only (fun k => k = bq) w1 ((w1.drewN nq).setCell ⟨bq, 0, none⟩ (.int .i64 ((m : Int) + 1))) := (Only.drewN (fun k => k = bq) w1 nq).setCell (fun _ => rfl) _
        refine (ih pr (m + 1) hi (d + 1) _ _ (by simp) ((a7.only ho1 (fun i _ h => hblk i (by omega))).only o2 (fun i _ h => hblk i (by omega))) hhi (by omega) (by omega) hs2).mono ?_
        rintro e w2 ⟨he, hs3, ho3⟩
        exact ⟨he, hs3, o2.trans ho3⟩
      · rintro w1 w2 ⟨hs1, ho1⟩ ⟨hs2, ho2⟩
        refine ⟨hs2.ns.cell hm, ?_⟩
        have hb : w2.heap[blk m]? = some (node (N m) (wrap64 (sm N lo (hi - lo))) (P m) pl pr) := by
          rw [(ho1.trans ho2).block _ (Array.getElem?_eq_some_iff.1 a5).1 (hblk m hm)]; exact a5
        exact (node_cell hb).2.1
      · rintro e w' ⟨he, w1, ⟨hs1, ho1⟩, hs2, ho2⟩
        exact ⟨he, hs2, ho1.trans ho2⟩
end Go.Proofs.Qxb6602551a

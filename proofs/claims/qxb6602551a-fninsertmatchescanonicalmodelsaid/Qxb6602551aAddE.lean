/-
  THE WALK of 'add' where there is no array yet.
-/
import Derived.Test.Qxb6602551aAdd
namespace Go.Proofs.Qxb6602551a
open Go.RowKit

/-- Behind the growth that did nothing. -/
def Still44 (bo bx : Nat) (a : Option Addr) (k np : Int) (ta : Option Addr) (tl tc : Nat) (w wc : World) : Prop :=
  wc.heap[bo]? = some (.cells #[.slice a 0 0] 76 (0, 0)) ∧ wc.heap[bx]? = some (.cells #[.int .i64 k, .int .i64 np, .slice ta tl tc] 60 (0, 0)) ∧ Only (fun b => b = bo) w wc

/-- What an append onto nothing leaves. -/
theorem added_first {w w3 w4 W : World} {bo g cap : Nat} {k np : Int} {ta : Option Addr} {tl tc : Nat} {v : Value} (F : Nat → Value) (o3 : Only (fun b => b = bo) w w3) (ho : w3.heap[bo]? = some (.cells #[v] 76 (0, 0))) (o : Obj)
    (hown : w4.ownsRow (w3.alloc o).heap.size 60 3 (.slice (some ⟨g, 0, none⟩) 1 cap) 1 [.int .i64 k, .int .i64 np, .slice ta tl tc]) (hgr : (w3.alloc o).drew.grownBy w4 none)
    (hh : W.heap = (w4.setCell ⟨bo, 0, none⟩ (.slice (some ⟨g, 0, none⟩) 1 cap)).heap) (h1 : W.os = w4.os) (h2 : W.tape = w4.tape) (h3 : W.output = w4.output) :
    AddedNew bo 0 k np ta tl tc F w (.returned (.tuple #[])) W := by
  have hbo : bo < w3.heap.size := (Array.getElem?_eq_some_iff.1 ho).1
  have hal : (w3.alloc o).heap.size = w3.heap.size + 1 := by simp
  have o4 : Only (fun b => b = bo) w3 w4 := ⟨hgr.os, hgr.tape, hgr.output, Nat.le_trans (by simp) hgr.size, fun j hj _ => (hgr.block j (by show j < (w3.alloc o).heap.size; omega) (fun h => by cases h)).trans (Below.heap_alloc _ _ _ hj)⟩
  have ho4 : w4.heap[bo]? = some (.cells #[v] 76 (0, 0)) := by
    rw [hgr.block bo (by show bo < (w3.alloc o).heap.size; omega) (fun h => by cases h)]
    exact (Below.heap_alloc _ _ _ hbo).trans ho
  rcases hown.2 with ⟨h, _⟩ | ⟨g', cap', cur, hv, hb, hg, hc, _, hcs, htk⟩
  · cases h
  · injection hv with hv1 hv2 hv3
    injection hv1 with hv1
    injection hv1 with hv1
    subst hv1; subst hv3
    have hne : g ≠ bo := by omega
    refine ⟨rfl, g, cap, fun j => cur.getD j undef, ?_, hc, ?_, ?_, fun j hj => by omega, ?_⟩
    · have := o3.size; omega
    · rw [hh]; exact op_set ho4
    · have r4 : w4.rowIs g 60 (cap * 3) (fun j => cur.getD j undef) := ⟨cur, hg, hcs, fun j hj => by
        have : j < cur.size := by rw [hcs]; exact hj
        simp [Array.getD, this]⟩
      have r5 : W.rowIs g 60 (cap * 3) (fun j => cur.getD j undef) := (r4.setOther (a := ⟨bo, 0, none⟩) hne _).of_block (by rw [hh])
      refine r5.congr (fun j hj => ?_)
      have hget : ∀ m u, ([.int .i64 k, .int .i64 np, .slice ta tl tc] : List Value)[m]? = some u → cur.getD m undef = u := by
        intro m u hu
        rw [← htk, List.getElem?_take] at hu
        split at hu
        · rw [Array.getElem?_toList] at hu
          obtain ⟨q1, q2⟩ := Array.getElem?_eq_some_iff.1 hu
          simp [Array.getD, q1, q2]
        · cases hu
      simp only [put3]
      split
      · rename_i e; subst e; exact hget 2 _ rfl
      · split
        · rename_i e; subst e; exact hget 1 _ rfl
        · split
          · rename_i e; subst e; exact hget 0 _ rfl
          · rfl
    · exact (o3.trans (o4.setCell (p := ⟨bo, 0, none⟩) (fun _ => rfl) _)).of_heap hh h1 h2 h3

set_option maxHeartbeats 1000000 in
theorem add_empty (bo : Nat) (a : Option Addr) (k np : Int) (ta : Option Addr) (tl tc : Nat) (F : Nat → Value) (w : World) (ho : w.heap[bo]? = some (.cells #[.slice a 0 0] 76 (0, 0))) :
    Calls Try.prog 44 #[.pointer (some ⟨bo, 0, none⟩), .agg #[.int .i64 k, .int .i64 np, .slice ta tl tc]] w fun e w' => AddedNew bo 0 k np ta tl tc F w e w' := by
  obtain ⟨i, hi, hz, hs, hby⟩ := info60'
  obtain ⟨c0, f0⟩ := opCell ho
  have hbo : bo < w.heap.size := (Array.getElem?_eq_some_iff.1 ho).1
  have Ho : Hid _ := ho
  clear ho
  go_enter Try.func44, Try.ntmps44
  go_wp2
  go_quiet (fail)
  go_wp2_with fail
  have hb1 : Below w.heap.size w ((w.alloc (.cells #[.int .i64 k, .int .i64 np, .slice ta tl tc] 60)).drewN nq) := (((Below.refl _ w).alloc (Nat.le_refl _) _)).trans ⟨rfl, rfl, rfl, Nat.le_refl _, fun _ _ => rfl⟩
  have hx1 : ((w.alloc (.cells #[.int .i64 k, .int .i64 np, .slice ta tl tc] 60)).drewN nq).heap[w.heap.size]? = some (.cells #[.int .i64 k, .int .i64 np, .slice ta tl tc] 60 (0, 0)) := Deep.blk_alloc_new _ _
  generalize ((w.alloc (.cells #[.int .i64 k, .int .i64 np, .slice ta tl tc] 60)).drewN nq) = w1 at hb1 hx1 ⊢
  obtain ⟨bx, hbx⟩ : ∃ bx, bx = w.heap.size := ⟨_, rfl⟩
  rw [← hbx] at hx1
  rw [← hb1.cell hbo] at c0
  rw [← hb1.frozen hbo] at f0
  have ho1 : w1.heap[bo]? = some (.cells #[.slice a 0 0] 76 (0, 0)) := by rw [hb1.block _ hbo]; exact Ho.out
  have hxo : bx ≠ bo := by omega
  rw [← hbx]
  have o1 : Only (fun b => b = bo) w w1 := ⟨hb1.os, hb1.tape, hb1.output, hb1.size, fun j hj _ => hb1.block j hj⟩
  have st : ∀ W : World, W.heap = (w1.setCell ⟨bo, 0, none⟩ (.slice a 0 0)).heap → W.os = w1.os → W.tape = w1.tape → W.output = w1.output → Still44 bo bx a k np ta tl tc w W := by
    intro W e1 e2 e3 e4
    refine ⟨by rw [e1]; exact op_set ho1, by rw [e1, Below.heap_setCell _ _ _ _ hxo]; exact hx1, (o1.setCell (p := ⟨bo, 0, none⟩) (fun _ => rfl) _).of_heap e1 e2 e3 e4⟩
  have ST : Hid _ := st
  clear hbx hb1 hx1 ho1 o1 st
  go_cut [] (fun wc => Still44 bo bx a k np ta tl tc w wc)
  case first =>
    go_region_with ((go_at_call 47; refine (grow_zero a _).mono ?_; rintro e w2 ⟨rfl, rfl⟩))
    all_goals (
      go_wp2_with fail
      go_meet
      exact ST.out _ rfl rfl rfl rfl)
  case rest =>
    obtain ⟨ho3, hx3, o3⟩ := hcut
    clear c0 f0
    obtain ⟨w3, rfl⟩ : ∃ w3 : World, w3 = wc := ⟨_, rfl⟩
    obtain ⟨c0, f0⟩ := opCell ho3
    have x0 : w3.cell? ⟨bx, 0, none⟩ = some (.int .i64 k) := by simp [World.cell?, hx3]
    have x1 : w3.cell? ⟨bx, 1, none⟩ = some (.int .i64 np) := by simp [World.cell?, hx3]
    have x2 : w3.cell? ⟨bx, 2, none⟩ = some (.slice ta tl tc) := by simp [World.cell?, hx3]
    have hbo3 : bo < w3.heap.size := (Array.getElem?_eq_some_iff.1 ho3).1
    have hbx3 : bx < w3.heap.size := (Array.getElem?_eq_some_iff.1 hx3).1
    have n1 : ∀ (j : Nat) (u : Value), ([.int .i64 k, .int .i64 np, .slice ta tl tc] : List Value)[j]? = some u → (w3.alloc (.cells #[.int .i64 k, .int .i64 np, .slice ta tl tc] 60)).cell? ((⟨w3.heap.size, 0, none⟩ : Addr).add j) = some u :=
      World.news_of_block (B := w3.heap.size) (cs := #[.int .i64 k, .int .i64 np, .slice ta tl tc]) (t := 60) (fr := (0, 0)) (Deep.blk_alloc_new _ _)
    have N1 : Hid _ := n1
    have HO3 : Hid (w3.heap[bo]? = some (.cells #[.slice a 0 0] 76 (0, 0))) := ho3
    have O3 : Hid (Only (fun b => b = bo) w w3) := o3
    clear n1 ho3 o3 hx3 Ho ST
    go_wp2_with fail
    go_region_law ((refine step_append_grows rfl (.tmp 32) (.tmp 34) 57 rfl 60 i (.agg #[.int .i64 0, .int .i64 0, .slice none 0 0]) 3 40 Try.underlying57 hi hz hs hby rfl (by decide) a 0 0 [] (by simp [Act.eval]) (fun _ => ⟨rfl, rfl⟩) rfl (fun _ _ _ _ h => by simp at h) ⟨w3.heap.size, 0, none⟩ 1 1 [.int .i64 k, .int .i64 np, .slice ta tl tc] (by simp [Act.eval]) rfl (by exact N1.out) (one3 _ _ _ _ _) (by omega) (by simp only [maxLen]; omega) (by omega) ?_; intro v' w4 hown hgr; obtain ⟨g, cap, hv, hgb, hgl⟩ := hown.form (by omega); subst hv; have y1 : w4.cell? ⟨bo, 0, none⟩ = some (.slice a 0 0) := (World.cell?_of_block (w := (w3.alloc (.cells #[.int .i64 k, .int .i64 np, .slice ta tl tc] 60))) (hgr.block bo (by simp; omega) (fun h => by cases h))).trans ((World.cell?_alloc_lt w3 _ ⟨bo, 0, none⟩ hbo3).trans c0); have y2 : w4.frozen? ⟨bo, 0, none⟩ = false := (World.frozen?_of_block (w := (w3.alloc (.cells #[.int .i64 k, .int .i64 np, .slice ta tl tc] 60))) (hgr.block bo (by simp; omega) (fun h => by cases h))).trans ((World.frozen?_alloc_past _ _ _ hbo3).trans f0)))
    all_goals (go_end0; exact added_first F O3.out HO3.out (.cells #[.int .i64 k, .int .i64 np, .slice ta tl tc] 60) hown hgr rfl rfl rfl rfl)
end Go.Proofs.Qxb6602551a

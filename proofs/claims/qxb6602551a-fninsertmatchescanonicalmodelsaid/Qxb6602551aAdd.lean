/-
  THE WALK of 'add', in three cases: there is room; the array is full; there is no array yet.
-/
import Derived.Test.Qxb6602551aGrow
import Derived.Deep.AppendLies
import Derived.Deep.DeepCutAuto
namespace Go.Proofs.Qxb6602551a
open Go.RowKit

theorem opCell {w : World} {bo : Nat} {v : Value} (h : w.heap[bo]? = some (.cells #[v] 76 (0, 0))) : w.cell? ⟨bo, 0, none⟩ = some v ∧ w.frozen? ⟨bo, 0, none⟩ = false := by
  simp [World.cell?, World.frozen?, h]

theorem room_cells {w : World} {ba N n : Nat} {F : Nat → Value} (r : w.rowIs ba 60 N F) (h : n * 3 + 3 ≤ N) : ∀ j, j < 3 → (w.cell? ⟨ba, 0 + n * 3 + j, none⟩).isSome = true ∧ w.frozen? ⟨ba, 0 + n * 3 + j, none⟩ = false := by
  intro j hj
  refine ⟨?_, r.frozen _⟩
  rw [r.cell (i := 0 + n * 3 + j) (by omega)]
  rfl

theorem one3 (k np : Int) (ta : Option Addr) (tl tc : Nat) : ∀ u ∈ ([.int .i64 k, .int .i64 np, .slice ta tl tc] : List Value), u.oneCell' = true := by
  intro u hu
  simp at hu
  rcases hu with rfl | rfl | rfl <;> rfl

theorem op_set {w : World} {bo : Nat} {v v' : Value} (h : w.heap[bo]? = some (.cells #[v] 76 (0, 0))) : (w.setCell ⟨bo, 0, none⟩ v').heap[bo]? = some (.cells #[v'] 76 (0, 0)) := by
  simp [World.setCell, Array.getElem?_modify, h]

/-- What the last statement of 'add' leaves, where there is room. -/
theorem add_fin {w W : World} {bo ba n cap : Nat} {F : Nat → Value} {o : Obj} {a b c v v' : Value} (ho : w.heap[bo]? = some (.cells #[v] 76 (0, 0))) (r : w.rowIs ba 60 (cap * 3) F) (hne : ba ≠ bo)
    (hh : W.heap = (((w.alloc o).setCells ba (n * 3) [a, b, c]).setCell ⟨bo, 0, none⟩ v').heap) (h1 : W.os = w.os) (h2 : W.tape = w.tape) (h3 : W.output = w.output) :
    W.heap[bo]? = some (.cells #[v'] 76 (0, 0)) ∧ W.rowIs ba 60 (cap * 3) (put3 F n a b c) ∧ Only (fun x => x = bo ∨ x = ba) w W := by
  have hbo : bo < w.heap.size := (Array.getElem?_eq_some_iff.1 ho).1
  have o1 : Only (fun x => x = bo ∨ x = ba) w (((((w.alloc o).setCell ⟨ba, n * 3, none⟩ a).setCell ⟨ba, n * 3 + 1, none⟩ b).setCell ⟨ba, n * 3 + 2, none⟩ c).setCell ⟨bo, 0, none⟩ v') :=
    (((((Only.refl (fun x => x = bo ∨ x = ba) w).alloc o).setCell (fun _ => Or.inr rfl) _).setCell (fun _ => Or.inr rfl) _).setCell (fun _ => Or.inr rfl) _).setCell (fun _ => Or.inl rfl) _
  have hb1 : ((((w.alloc o).setCell ⟨ba, n * 3, none⟩ a).setCell ⟨ba, n * 3 + 1, none⟩ b).setCell ⟨ba, n * 3 + 2, none⟩ c).heap[bo]? = some (.cells #[v] 76 (0, 0)) := by
    rw [Below.heap_setCell _ _ _ _ (Ne.symm hne), Below.heap_setCell _ _ _ _ (Ne.symm hne), Below.heap_setCell _ _ _ _ (Ne.symm hne), Below.heap_alloc _ _ _ hbo]
    exact ho
  refine ⟨?_, ?_, o1.of_heap hh h1 h2 h3⟩
  · rw [hh]
    show (World.setCell ((((w.alloc o).setCell ⟨ba, n * 3, none⟩ a).setCell ⟨ba, n * 3 + 1, none⟩ b).setCell ⟨ba, n * 3 + 2, none⟩ c) ⟨bo, 0, none⟩ v').heap[bo]? = _
    exact op_set hb1
  · refine ((row_put3 (r.alloc o) n a b c).setOther (a := ⟨bo, 0, none⟩) hne v').of_block ?_
    rw [hh]
    rfl

set_option maxHeartbeats 1000000 in
theorem add_room (bo ba n cap : Nat) (k np : Int) (ta : Option Addr) (tl tc : Nat) (F : Nat → Value) (w : World) (ho : w.heap[bo]? = some (.cells #[.slice (some ⟨ba, 0, none⟩) n cap] 76 (0, 0)))
    (hr : w.rowIs ba 60 (cap * 3) F) (hn : n < cap) (_hb : n ≤ 10000) (hne : ba ≠ bo) :
    Calls Try.prog 44 #[.pointer (some ⟨bo, 0, none⟩), .agg #[.int .i64 k, .int .i64 np, .slice ta tl tc]] w fun e w' => e = .returned (.tuple #[]) ∧
      w'.heap[bo]? = some (.cells #[.slice (some ⟨ba, 0, none⟩) (n + 1) cap] 76 (0, 0)) ∧ w'.rowIs ba 60 (cap * 3) (put3 F n (.int .i64 k) (.int .i64 np) (.slice ta tl tc)) ∧ Only (fun b => b = bo ∨ b = ba) w w' := by
  obtain ⟨i, hi, hz, hs, hby⟩ := info60'
  obtain ⟨c0, f0⟩ := opCell ho
  have hbo : bo < w.heap.size := (Array.getElem?_eq_some_iff.1 ho).1
  have hba := hr.lt
  have hx : ((n : Int) == (cap : Int)) = false := by simp; omega
  have Ho : Hid _ := ho
  have Hr : Hid (w.rowIs ba 60 (cap * 3) F) := hr
  clear ho hr
  go_enter Try.func44, Try.ntmps44
  go_wp2
  go_quiet (fail)
  go_wp2
  have hb1 : Below w.heap.size w ((w.alloc (.cells #[.int .i64 k, .int .i64 np, .slice ta tl tc] 60)).drewN nq) := (((Below.refl _ w).alloc (Nat.le_refl _) _)).trans ⟨rfl, rfl, rfl, Nat.le_refl _, fun _ _ => rfl⟩
  have hx1 : ((w.alloc (.cells #[.int .i64 k, .int .i64 np, .slice ta tl tc] 60)).drewN nq).heap[w.heap.size]? = some (.cells #[.int .i64 k, .int .i64 np, .slice ta tl tc] 60 (0, 0)) := Deep.blk_alloc_new _ _
  have hs1 : ((w.alloc (.cells #[.int .i64 k, .int .i64 np, .slice ta tl tc] 60)).drewN nq).heap.size = w.heap.size + 1 := by simp
  generalize ((w.alloc (.cells #[.int .i64 k, .int .i64 np, .slice ta tl tc] 60)).drewN nq) = w1 at hb1 hx1 hs1 ⊢
  obtain ⟨bx, hbx⟩ : ∃ bx, bx = w.heap.size := ⟨_, rfl⟩
  rw [← hbx] at hx1
  have hbx1 : bx < w1.heap.size := by omega
  have x0 : w1.cell? ⟨bx, 0, none⟩ = some (.int .i64 k) := by simp [World.cell?, hx1]
  have x1 : w1.cell? ⟨bx, 1, none⟩ = some (.int .i64 np) := by simp [World.cell?, hx1]
  have x2 : w1.cell? ⟨bx, 2, none⟩ = some (.slice ta tl tc) := by simp [World.cell?, hx1]
  rw [← hb1.cell hbo] at c0
  rw [← hb1.frozen hbo] at f0
  have r1 : w1.rowIs ba 60 (cap * 3) F := World.rowIs.of_block Hr.out (hb1.block _ hba)
  have hbo1 : bo < w1.heap.size := by omega
  have hba1 : ba < w1.heap.size := by omega
  have hxo : bx ≠ bo := by omega
  have hxa : ba ≠ bx := by omega
  rw [← hbx]
  have Hbx : Hid _ := hbx
  have R1 : Hid (w1.rowIs ba 60 (cap * 3) F) := r1
  have HB1 : Hid (Below w.heap.size w w1) := hb1
  clear hbx r1 hb1 hx1 hs1
  have n1 : ∀ (j : Nat) (u : Value), ([.int .i64 k, .int .i64 np, .slice ta tl tc] : List Value)[j]? = some u → (w1.alloc (.cells #[.int .i64 k, .int .i64 np, .slice ta tl tc] 60)).cell? ((⟨w1.heap.size, 0, none⟩ : Addr).add j) = some u :=
    World.news_of_block (B := w1.heap.size) (cs := #[.int .i64 k, .int .i64 np, .slice ta tl tc]) (t := 60) (fr := (0, 0)) (Deep.blk_alloc_new _ _)
  have N1 : Hid _ := n1
  have rc := room_cells (n := n) (World.rowIs.alloc R1.out (.cells #[.int .i64 k, .int .i64 np, .slice ta tl tc] 60)) (by omega)
  have RC : Hid _ := rc
  clear n1 rc
  have k1 : ((w1.alloc (.cells #[.int .i64 k, .int .i64 np, .slice ta tl tc] 60)).drew.setCells ba (n * 3) [.int .i64 k, .int .i64 np, .slice ta tl tc]).cell? ⟨bo, 0, none⟩ = some (.slice (some ⟨ba, 0, none⟩) n cap) := by
    rw [World.cell?_setCells_out _ _ _ _ _ (fun h => absurd h.symm hne)]
    exact (World.cell?_alloc_lt w1 _ ⟨bo, 0, none⟩ hbo1).trans c0
  have k2 : ((w1.alloc (.cells #[.int .i64 k, .int .i64 np, .slice ta tl tc] 60)).drew.setCells ba (n * 3) [.int .i64 k, .int .i64 np, .slice ta tl tc]).frozen? ⟨bo, 0, none⟩ = false := by
    rw [World.frozen?_setCells]
    exact (World.frozen?_alloc_past _ _ _ hbo1).trans f0
  have ho1 : w1.heap[bo]? = some (.cells #[.slice (some ⟨ba, 0, none⟩) n cap] 76 (0, 0)) := by rw [HB1.out.block _ hbo]; exact Ho.out
  have fin : ∀ W : World, W.heap = (((w1.alloc (.cells #[.int .i64 k, .int .i64 np, .slice ta tl tc] 60)).setCells ba (n * 3) [.int .i64 k, .int .i64 np, .slice ta tl tc]).setCell ⟨bo, 0, none⟩ (.slice (some ⟨ba, 0, none⟩) (n + 1) cap)).heap →
      W.os = w1.os → W.tape = w1.tape → W.output = w1.output → W.heap[bo]? = some (.cells #[.slice (some ⟨ba, 0, none⟩) (n + 1) cap] 76 (0, 0)) ∧ W.rowIs ba 60 (cap * 3) (put3 F n (.int .i64 k) (.int .i64 np) (.slice ta tl tc)) ∧ Only (fun b => b = bo ∨ b = ba) w W := by
    intro W e1 e2 e3 e4
    obtain ⟨g1, g2, g3⟩ := add_fin ho1 R1.out hne e1 e2 e3 e4
    have o0 : Only (fun b => b = bo ∨ b = ba) w w1 := ⟨HB1.out.os, HB1.out.tape, HB1.out.output, HB1.out.size, fun k hk _ => HB1.out.block k hk⟩
    exact ⟨g1, g2, o0.trans g3⟩
  have FIN : Hid _ := fin
  clear fin ho1
  go_region_law (refine step_append_room rfl (.tmp 32) (.tmp 34) 57 rfl 60 i 3 Try.underlying57 hi hs ba 0 n cap (by simp [Act.eval]) ⟨w1.heap.size, 0, none⟩ 1 1 [.int .i64 k, .int .i64 np, .slice ta tl tc] (by simp [Act.eval]) rfl (by exact N1.out) (one3 _ _ _ _ _) (by omega) (by exact RC.out) ?_)
  all_goals (go_end0; exact ⟨rfl, FIN.out _ rfl rfl rfl rfl⟩)

def AddedNew (bo n : Nat) (k np : Int) (ta : Option Addr) (tl tc : Nat) (F : Nat → Value) (w : World) (e : Ending) (w' : World) : Prop :=
  e = .returned (.tuple #[]) ∧ ∃ g cap F', w.heap.size ≤ g ∧ n + 1 ≤ cap ∧ w'.heap[bo]? = some (.cells #[.slice (some ⟨g, 0, none⟩) (n + 1) cap] 76 (0, 0)) ∧
    w'.rowIs g 60 (cap * 3) (put3 F' n (.int .i64 k) (.int .i64 np) (.slice ta tl tc)) ∧ (∀ j, j < n * 3 → F' j = F j) ∧ Only (fun b => b = bo) w w'

/-- Behind the array's growth. -/
def Grown44 (bo bx n : Nat) (k np : Int) (ta : Option Addr) (tl tc : Nat) (F : Nat → Value) (w wc : World) : Prop :=
  ∃ g cap F', w.heap.size ≤ g ∧ n < cap ∧ wc.heap[bo]? = some (.cells #[.slice (some ⟨g, 0, none⟩) n cap] 76 (0, 0)) ∧ wc.rowIs g 60 (cap * 3) F' ∧ (∀ j, j < n * 3 → F' j = F j) ∧
    wc.heap[bx]? = some (.cells #[.int .i64 k, .int .i64 np, .slice ta tl tc] 60 (0, 0)) ∧ g ≠ bo ∧ Only (fun b => b = bo) w wc

theorem grown44_of {bo bx ba n cap : Nat} {k np : Int} {ta : Option Addr} {tl tc : Nat} {F F' : Nat → Value} {w w1 w2 : World} (hB : Below w.heap.size w w1) (hO : w1.heap[bo]? = some (.cells #[.slice (some ⟨ba, 0, none⟩) n n] 76 (0, 0)))
    (hX : w1.heap[bx]? = some (.cells #[.int .i64 k, .int .i64 np, .slice ta tl tc] 60 (0, 0))) (hxo : bx ≠ bo) (hcap : n < cap) (r2 : w2.rowIs w1.heap.size 60 (cap * 3) F') (eF : ∀ j, j < n * 3 → F' j = F j) (b2 : Below w1.heap.size w1 w2) :
    Grown44 bo bx n k np ta tl tc F w (w2.setCell ⟨bo, 0, none⟩ (.slice (some ⟨w1.heap.size, 0, none⟩) n cap)) := by
  have hbo1 : bo < w1.heap.size := (Array.getElem?_eq_some_iff.1 hO).1
  have hbx1 : bx < w1.heap.size := (Array.getElem?_eq_some_iff.1 hX).1
  have hgo : w1.heap.size ≠ bo := by omega
  refine ⟨w1.heap.size, cap, F', hB.size, hcap, op_set (by rw [b2.block _ hbo1]; exact hO), r2.setOther hgo _, eF, ?_, hgo, ?_⟩
  · rw [Below.heap_setCell _ _ _ _ hxo, b2.block _ hbx1]; exact hX
  · exact ((show Only (fun b => b = bo) w w1 from ⟨hB.os, hB.tape, hB.output, hB.size, fun k hk _ => hB.block k hk⟩).trans
        ⟨b2.os, b2.tape, b2.output, b2.size, fun k hk _ => b2.block k hk⟩).setCell (fun _ => rfl) _

set_option maxHeartbeats 1000000 in
theorem add_full (bo ba n : Nat) (k np : Int) (ta : Option Addr) (tl tc : Nat) (F : Nat → Value) (w : World) (ho : w.heap[bo]? = some (.cells #[.slice (some ⟨ba, 0, none⟩) n n] 76 (0, 0)))
    (hr : w.rowIs ba 60 (n * 3) F) (hn : 0 < n) (hb : n ≤ 10000) :
    Calls Try.prog 44 #[.pointer (some ⟨bo, 0, none⟩), .agg #[.int .i64 k, .int .i64 np, .slice ta tl tc]] w fun e w' => AddedNew bo n k np ta tl tc F w e w' := by
  obtain ⟨i, hi, hz, hs, hby⟩ := info60'
  obtain ⟨c0, f0⟩ := opCell ho
  have hbo : bo < w.heap.size := (Array.getElem?_eq_some_iff.1 ho).1
  have hba := hr.lt
  have hx : ((n : Int) == (n : Int)) = true := by simp
  have Ho : Hid _ := ho
  have Hr : Hid (w.rowIs ba 60 (n * 3) F) := hr
  clear ho hr
  go_enter Try.func44, Try.ntmps44
  go_wp2
  go_quiet (fail)
  go_wp2_with fail
  have hb1 : Below w.heap.size w ((w.alloc (.cells #[.int .i64 k, .int .i64 np, .slice ta tl tc] 60)).drewN nq) := (((Below.refl _ w).alloc (Nat.le_refl _) _)).trans ⟨rfl, rfl, rfl, Nat.le_refl _, fun _ _ => rfl⟩
  have hx1 : ((w.alloc (.cells #[.int .i64 k, .int .i64 np, .slice ta tl tc] 60)).drewN nq).heap[w.heap.size]? = some (.cells #[.int .i64 k, .int .i64 np, .slice ta tl tc] 60 (0, 0)) := Deep.blk_alloc_new _ _
  have hs1 : ((w.alloc (.cells #[.int .i64 k, .int .i64 np, .slice ta tl tc] 60)).drewN nq).heap.size = w.heap.size + 1 := by simp
  generalize ((w.alloc (.cells #[.int .i64 k, .int .i64 np, .slice ta tl tc] 60)).drewN nq) = w1 at hb1 hx1 hs1 ⊢
  obtain ⟨bx, hbx⟩ : ∃ bx, bx = w.heap.size := ⟨_, rfl⟩
  rw [← hbx] at hx1
  have hbx1 : bx < w1.heap.size := by omega
  rw [← hb1.cell hbo] at c0
  rw [← hb1.frozen hbo] at f0
  have r1 : w1.rowIs ba 60 (n * 3) F := World.rowIs.of_block Hr.out (hb1.block _ hba)
  have ho1 : w1.heap[bo]? = some (.cells #[.slice (some ⟨ba, 0, none⟩) n n] 76 (0, 0)) := by rw [hb1.block _ hbo]; exact Ho.out
  have hbo1 : bo < w1.heap.size := by omega
  have hxo : bx ≠ bo := by omega
  rw [← hbx]
  have Hbx : Hid (bx = w.heap.size) := hbx
  have R1 : Hid (w1.rowIs ba 60 (n * 3) F) := r1
  have HB1 : Hid (Below w.heap.size w w1) := hb1
  have HX1 : Hid (w1.heap[bx]? = some (.cells #[.int .i64 k, .int .i64 np, .slice ta tl tc] 60 (0, 0))) := hx1
  have HO1 : Hid (w1.heap[bo]? = some (.cells #[.slice (some ⟨ba, 0, none⟩) n n] 76 (0, 0))) := ho1
  clear hbx r1 hb1 hx1 hs1 ho1
  go_cut [] (fun wc => Grown44 bo bx n k np ta tl tc F w wc)
  case first =>
    go_region_with ((go_at_call 47; go_must (refine (grow_full ba n F _ (by exact R1.out) hn hb).mono ?_; rintro e w2 ⟨cap, F', rfl, hcap, r2, eF, b2⟩; have y1 : w2.cell? ⟨bo, 0, none⟩ = some (.slice (some ⟨ba, 0, none⟩) n n) := (b2.cell (p := ⟨bo, 0, none⟩) hbo1).trans c0; have y2 : w2.frozen? ⟨bo, 0, none⟩ = false := (b2.frozen (p := ⟨bo, 0, none⟩) hbo1).trans f0)))
    all_goals (
      go_wp2_with fail
      go_meet
      exact grown44_of HB1.out HO1.out HX1.out hxo hcap r2 eF (below_of_drew b2))
  case rest =>
    obtain ⟨g, cap, F', hgw, hcap, ho3, r3, eF, hx3, hgo, o3⟩ := hcut
    clear c0 f0
    obtain ⟨w3, rfl⟩ : ∃ w3 : World, w3 = wc := ⟨_, rfl⟩
    obtain ⟨c0, f0⟩ := opCell ho3
    have x0 : w3.cell? ⟨bx, 0, none⟩ = some (.int .i64 k) := by simp [World.cell?, hx3]
    have x1 : w3.cell? ⟨bx, 1, none⟩ = some (.int .i64 np) := by simp [World.cell?, hx3]
    have x2 : w3.cell? ⟨bx, 2, none⟩ = some (.slice ta tl tc) := by simp [World.cell?, hx3]
    have hbo3 : bo < w3.heap.size := (Array.getElem?_eq_some_iff.1 ho3).1
    have hbx3 : bx < w3.heap.size := (Array.getElem?_eq_some_iff.1 hx3).1
    have n1 : ∀ (j : Nat) (u : Value), ([.int .i64 k, .int .i64 np, .slice ta tl tc] : List Value)[j]? = some u → (w3.alloc (.cells #[.int .i64 k, .int .i64 np, .slice ta tl tc] 60)).cell? ((⟨w3.heap.size, 0, none⟩ : Addr).add j) = some u :=
      World.news_of_block (B := w3.heap.size) (cs := #[.int .i64 k, .int .i64 np, .slice ta tl tc]) (t := 60) (fr := (0, 0)) (Deep.blk_alloc_new _ _)
    have N1 : Hid _ := n1
    have rc := room_cells (n := n) (r3.alloc (.cells #[.int .i64 k, .int .i64 np, .slice ta tl tc] 60)) (by omega)
    have RC : Hid _ := rc
    clear n1 rc
    have k1 : ((w3.alloc (.cells #[.int .i64 k, .int .i64 np, .slice ta tl tc] 60)).drew.setCells g (n * 3) [.int .i64 k, .int .i64 np, .slice ta tl tc]).cell? ⟨bo, 0, none⟩ = some (.slice (some ⟨g, 0, none⟩) n cap) := by
      rw [World.cell?_setCells_out _ _ _ _ _ (fun h => absurd h.symm hgo)]
      exact (World.cell?_alloc_lt w3 _ ⟨bo, 0, none⟩ hbo3).trans c0
    have k2 : ((w3.alloc (.cells #[.int .i64 k, .int .i64 np, .slice ta tl tc] 60)).drew.setCells g (n * 3) [.int .i64 k, .int .i64 np, .slice ta tl tc]).frozen? ⟨bo, 0, none⟩ = false := by
      rw [World.frozen?_setCells]
      exact (World.frozen?_alloc_past _ _ _ hbo3).trans f0
    have fin : ∀ W : World, W.heap = (((w3.alloc (.cells #[.int .i64 k, .int .i64 np, .slice ta tl tc] 60)).setCells g (n * 3) [.int .i64 k, .int .i64 np, .slice ta tl tc]).setCell ⟨bo, 0, none⟩ (.slice (some ⟨g, 0, none⟩) (n + 1) cap)).heap →
        W.os = w3.os → W.tape = w3.tape → W.output = w3.output → AddedNew bo n k np ta tl tc F w (.returned (.tuple #[])) W := by
      intro W e1 e2 e3 e4
      obtain ⟨g1, g2, g3⟩ := add_fin ho3 r3 hgo e1 e2 e3 e4
      exact ⟨rfl, g, cap, F', hgw, hcap, g1, g2, eF, o3.trans' g3 (fun x hx y => by rcases y with y | y <;> omega)⟩
    have FIN : Hid _ := fin
    clear fin eF ho3 r3 hx3 o3 R1 HB1 HX1 HO1 Ho Hr Hbx
    go_wp2_with fail
    go_region_law (refine step_append_room rfl (.tmp 32) (.tmp 34) 57 rfl 60 i 3 Try.underlying57 hi hs g 0 n cap (by simp [Act.eval]) ⟨w3.heap.size, 0, none⟩ 1 1 [.int .i64 k, .int .i64 np, .slice ta tl tc] (by simp [Act.eval]) rfl (by exact N1.out) (one3 _ _ _ _ _) (by omega) (by exact RC.out) ?_)
    all_goals (go_end0; exact FIN.out _ rfl rfl rfl rfl)
end Go.Proofs.Qxb6602551a

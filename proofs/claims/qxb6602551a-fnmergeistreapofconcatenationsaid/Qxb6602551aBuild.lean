/-
  THE WALKS of 'topIndex' and 'buildTree': the Cartesian tree of an interval, its nodes recorded in the slice 'nodes'.
-/
import Derived.Test.Qxb6602551aMerge
namespace Go.Proofs.Qxb6602551a
open Go.RowKit

/-- The last index of lo .. lo+k at which K is greatest. -/
def top (K : Nat → Int) (lo : Nat) : Nat → Nat
  | 0 => lo
  | k + 1 => if K (top K lo k) ≤ K (lo + k + 1) then lo + k + 1 else top K lo k

theorem top_bd (K : Nat → Int) (lo : Nat) : ∀ k, lo ≤ top K lo k ∧ top K lo k ≤ lo + k
  | 0 => ⟨Nat.le_refl _, Nat.le_refl _⟩
  | k + 1 => by
    have := top_bd K lo k
    unfold top; split <;> omega

theorem ret_int {k : IntKind} {a b : Int} (h : a = b) : Ending.returned (.int k a) = .returned (.int k b) := by rw [h]

set_option maxHeartbeats 400000 in
theorem topIndex_nat (K : Nat → Int) (bk n c l h : Nat) (w : World) (hc : ∀ i, i < n → w.cell? ⟨bk, i, none⟩ = some (.int .u64 (K i))) (hlt : l < h) (hn : h ≤ n) (hbig : n ≤ 1000000) :
    Calls Try.prog 34 #[.slice (some ⟨bk, 0, none⟩) n c, .int .i64 l, .int .i64 h] w fun e w' => e = .returned (.int .i64 (top K l (h - l - 1))) ∧ ∃ nq, w' = w.drewN nq := by
  go_enter Try.func34, Try.ntmps34
  go_wp2
  go_loopw [7, 8] (fun best i wr => ∃ k : Nat, l + k + 1 ≤ h ∧ i = .int .i64 ((l + k + 1 : Nat) : Int) ∧ best = .int .i64 (top K l k) ∧ ∃ nq, wr = w.drewN nq) (fun _ i _ => (h - intOf i).toNat)
  case atStart => exact ⟨0, by omega, by simp, rfl, 0, rfl⟩
  case round =>
    obtain ⟨k, hk, rfl, rfl, nq, rfl⟩ := hrel
    have hb := top_bd K l k
    by_cases hk2 : l + k + 1 < h
    · have hb2 : top K l k < n := by omega
      have c1 := hc (l + k + 1) (by omega)
      have c2 := hc (top K l k) (by omega)
      by_cases hge : K (top K l k) ≤ K (l + k + 1)
      · go_wp2
        go_quiet (fail)
        go_wp2
        have et : top K l (k + 1) = l + k + 1 := if_pos hge
        exact ⟨⟨k + 1, by omega, by go_num, by rw [et], _, rfl⟩, by simp [intOf]; omega⟩
      · have hge' : decide (K (top K l k) ≤ K (l + k + 1)) = false := decide_eq_false hge
        go_wp2
        go_quiet (fail)
        go_wp2
        have et : top K l (k + 1) = top K l k := if_neg (by omega)
        exact ⟨⟨k + 1, by omega, by go_num, by rw [et], _, rfl⟩, by simp [intOf]; omega⟩
    · go_wp2
      go_ret
      exact ⟨ret_int (by rw [show h - l - 1 = k by omega]), _, rfl⟩

theorem topIndex_any (K : Nat → Int) (bk n c l h : Nat) (lo hi : Int) (w : World) (hlo : lo = l) (hhi : hi = h) (hc : ∀ i, i < n → w.cell? ⟨bk, i, none⟩ = some (.int .u64 (K i))) (hlt : l < h) (hn : h ≤ n) (hbig : n ≤ 1000000) :
    Calls Try.prog 34 #[.slice (some ⟨bk, 0, none⟩) n c, .int .i64 lo, .int .i64 hi] w fun e w' => e = .returned (.int .i64 (top K l (h - l - 1))) ∧ ∃ nq, w' = w.drewN nq := by
  subst hlo; subst hhi
  exact topIndex_nat K bk n c l h w hc hlt hn hbig

/-- The tree speaks of the blocks of its own interval alone. -/
theorem T.blk {N pr : Nat → Int} {blk blk' : Nat → Nat} {Q : Nat → Nat → Nat → Prop} : ∀ {f : Nat} {w : World} {p : Option Addr} {lo hi : Nat}, T N pr blk Q f w p lo hi → (∀ i, lo ≤ i → i < hi → blk' i = blk i) → T N pr blk' Q f w p lo hi
  | 0, _, _, _, _, h, _ => h
  | _ + 1, _, _, _, _, h, hs => by
    rcases h with h | ⟨m, pl, pr', h1, h2, h3, h4, h5, h6, h7⟩
    · exact Or.inl h
    · have e := hs m h1 h2
      exact Or.inr ⟨m, pl, pr', h1, h2, h3, by rw [e]; exact h4, by rw [e]; exact h5, h6.blk (fun i a b => hs i a (by omega)), h7.blk (fun i a b => hs i (by omega) b)⟩

/-- What 'buildTree' is handed: the rows of the counts, of the shape's keys, of the priorities, and the slice of nodes. -/
structure Given (N S P : Nat → Int) (bn bs bp bd n : Nat) (w : World) : Prop where
  ns : w.rowIs bn 3 n (fun i => .int .i64 (N i))
  shape : w.rowIs bs 39 n (fun i => .int .u64 (S i))
  prios : w.rowIs bp 39 n (fun i => .int .u64 (P i))
  ne : bn ≠ bd ∧ bs ≠ bd ∧ bp ≠ bd

theorem Given.only {N S P : Nat → Int} {bn bs bp bd n : Nat} {w w' : World} (h : Given N S P bn bs bp bd n w) (ho : Only (fun k => k = bd) w w') : Given N S P bn bs bp bd n w' :=
  ⟨h.ns.of_block (ho.block _ h.ns.lt h.ne.1), h.shape.of_block (ho.block _ h.shape.lt h.ne.2.1), h.prios.of_block (ho.block _ h.prios.lt h.ne.2.2), h.ne⟩

/-- The node's slot in the list of nodes. -/
def nodeAt (blk : Nat → Nat) (i : Nat) : Value := .pointer (some ⟨blk i, 0, none⟩)

/-- What 'buildTree' leaves behind for the interval l .. h-1. -/
structure Built (N S P : Nat → Int) (bd n l h : Nat) (D : Nat → Value) (w w' : World) (p : Option Addr) (blk : Nat → Nat) : Prop where
  tree : T N P blk (fun lo m hi => m = top S lo (hi - lo - 1)) (h - l) w' p l h
  fresh : ∀ i, l ≤ i → i < h → w.heap.size ≤ blk i ∧ blk i < w'.heap.size
  inj : ∀ i j, l ≤ i → i < h → l ≤ j → j < h → blk i = blk j → i = j
  nodes : w'.rowIs bd 43 n (fun i => if l ≤ i ∧ i < h then nodeAt blk i else D i)
  only : Only (fun k => k = bd) w w'

set_option maxHeartbeats 400000 in
theorem build_nil (bn bs bp bd n : Nat) (lo hi : Int) (w : World) (h : hi ≤ lo) :
    Calls Try.prog 20 #[.slice (some ⟨bn, 0, none⟩) n n, .slice (some ⟨bs, 0, none⟩) n n, .slice (some ⟨bp, 0, none⟩) n n, .int .i64 lo, .int .i64 hi, .slice (some ⟨bd, 0, none⟩) n n] w
      fun e w' => e = .returned (.tuple #[.pointer none, .int .i64 0]) ∧ w' = w := by
  go_enter Try.func20, Try.ntmps20
  go_wp2_with fail
  go_ret2
  exact ⟨rfl, rfl⟩

set_option maxHeartbeats 400000 in
/-- One call of 'buildTree' at an interval that is not empty, its two calls of itself by what they leave. -/
theorem build_step (N S P : Nat → Int) (bn bs bp bd n l h m : Nat) (sl sr : Int) (w : World) (R1 : (Nat → Nat) → Option Addr → World → Prop) (R2 : (Nat → Nat) → World → (Nat → Nat) → Option Addr → World → Prop)
    (hg : Given N S P bn bs bp bd n w) (hlt : l < h) (hn : h ≤ n) (hbig : n ≤ 1000000) (hm : m = top S l (h - l - 1))
    (h1 : ∀ nq, Calls Try.prog 20 #[.slice (some ⟨bn, 0, none⟩) n n, .slice (some ⟨bs, 0, none⟩) n n, .slice (some ⟨bp, 0, none⟩) n n, .int .i64 l, .int .i64 m, .slice (some ⟨bd, 0, none⟩) n n] (w.drewN nq)
      fun e w1 => ∃ g p, e = .returned (.tuple #[.pointer p, .int .i64 sl]) ∧ R1 g p w1)
    (h2 : ∀ g p w1, R1 g p w1 → Calls Try.prog 20 #[.slice (some ⟨bn, 0, none⟩) n n, .slice (some ⟨bs, 0, none⟩) n n, .slice (some ⟨bp, 0, none⟩) n n, .int .i64 ((m : Int) + 1), .int .i64 h, .slice (some ⟨bd, 0, none⟩) n n] w1
      fun e w2 => ∃ g' q, e = .returned (.tuple #[.pointer q, .int .i64 sr]) ∧ R2 g w1 g' q w2)
    (h3 : ∀ g p w1 g' q w2, R1 g p w1 → R2 g w1 g' q w2 → Given N S P bn bs bp bd n w2 ∧ ∃ D : Nat → Value, w2.rowIs bd 43 n D) :
    Calls Try.prog 20 #[.slice (some ⟨bn, 0, none⟩) n n, .slice (some ⟨bs, 0, none⟩) n n, .slice (some ⟨bp, 0, none⟩) n n, .int .i64 l, .int .i64 h, .slice (some ⟨bd, 0, none⟩) n n] w
      fun e w' => ∃ g p w1 g' q w2 s, R1 g p w1 ∧ R2 g w1 g' q w2 ∧ s = wrap64 (wrap64 (sl + N m) + sr) ∧ e = .returned (.tuple #[.pointer (some ⟨w2.heap.size, 0, none⟩), .int .i64 s]) ∧
        w'.heap = ((w2.setCell ⟨bd, m, none⟩ (.pointer (some ⟨w2.heap.size, 0, none⟩))).alloc (node (N m) s (P m) p q)).heap ∧ w'.os = w2.os ∧ w'.tape = w2.tape ∧ w'.output = w2.output := by
  have hmb := top_bd S l (h - l - 1)
  rw [← hm] at hmb
  have hml : l ≤ m := hmb.1
  have hmh : m < h := by omega
  have hmn : m < n := by omega
  clear hmb
  have Hm : Hid _ := hm
  have H1 : Hid _ := h1
  have H2 : Hid _ := h2
  have H3 : Hid _ := h3
  have Hg : Hid _ := hg
  clear h1 h2 h3 hm hg
  go_enter Try.func20, Try.ntmps20
  go_wp2_with fail
  refine (topIndex_any S bs n n l h _ _ _ rfl rfl (fun i hi => Hg.out.shape.cell hi) hlt hn hbig).mono ?_
  rintro e w' ⟨rfl, nq, rfl⟩
  rw [← Hm.out]
  go_wp2_with fail
  refine Calls.mono (H1.out _) ?_
  rintro e w1 ⟨g, p, rfl, hr1⟩
  have Hr1 : Hid _ := hr1
  clear hr1
  go_wp2_with fail
  refine Calls.mono (H2.out g p w1 Hr1.out) ?_
  rintro e w2 ⟨g', q, rfl, hr2⟩
  have Hr2 : Hid _ := hr2
  clear hr2
  obtain ⟨hg, D, hD⟩ := H3.out g p w1 g' q w2 Hr1.out Hr2.out
  have c1 := hg.ns.cell hmn
  have c2 := hg.prios.cell hmn
  have c3 := hD.cell hmn
  have f3 := hD.frozen m
  have hbd := hD.lt
  have HD : Hid _ := hD
  clear hD hg
  go_wp2_with fail
  have c4 : ∀ o, (w2.alloc o).cell? ⟨bd, m, none⟩ = some (D m) := fun o => by rw [World.cell?_alloc_lt _ _ _ hbd]; exact c3
  have f4 : ∀ o, (w2.alloc o).frozen? ⟨bd, m, none⟩ = false := fun o => by rw [World.frozen?_alloc_past _ _ _ hbd]; exact f3
  go_region_held (fun w' => w'.cell? ⟨bn, m, none⟩ = some (.int .i64 (N m)) ∧ w'.cell? ⟨bp, m, none⟩ = some (.int .u64 (P m))) (go_keep)
    ((go_at_call 35; refine (newNode_any _ _ _ _ _ _).mono ?_; rintro e w' ⟨rfl, rfl⟩))
  go_wp2_with fail
  go_ret2
  exact ⟨g, p, w1, g', q, w2, _, Hr1.out, Hr2.out, rfl, rfl, rfl, rfl, rfl, rfl⟩

/-- WHAT 'buildTree' DOES. -/
theorem build_any (N S P : Nat → Int) (bn bs bp bd n : Nat) (hbig : n ≤ 1000000) (k : Nat) : ∀ (l h : Nat) (lo hi : Int) (D : Nat → Value) (w : World), lo = l → hi = h → h - l ≤ k → l ≤ h → h ≤ n →
    Given N S P bn bs bp bd n w → w.rowIs bd 43 n D →
    Calls Try.prog 20 #[.slice (some ⟨bn, 0, none⟩) n n, .slice (some ⟨bs, 0, none⟩) n n, .slice (some ⟨bp, 0, none⟩) n n, .int .i64 lo, .int .i64 hi, .slice (some ⟨bd, 0, none⟩) n n] w
      fun e w' => ∃ blk p, e = .returned (.tuple #[.pointer p, .int .i64 (wrap64 (sm N l (h - l)))]) ∧ Built N S P bd n l h D w w' p blk := by
  have base : ∀ (l h : Nat) (lo hi : Int) (D : Nat → Value) (w : World), lo = l → hi = h → h = l → w.rowIs bd 43 n D →
      Calls Try.prog 20 #[.slice (some ⟨bn, 0, none⟩) n n, .slice (some ⟨bs, 0, none⟩) n n, .slice (some ⟨bp, 0, none⟩) n n, .int .i64 lo, .int .i64 hi, .slice (some ⟨bd, 0, none⟩) n n] w
        fun e w' => ∃ blk p, e = .returned (.tuple #[.pointer p, .int .i64 (wrap64 (sm N l (h - l)))]) ∧ Built N S P bd n l h D w w' p blk := by
    intro l h lo hi D w hlo hhi hh hD
    subst hh
    refine (build_nil bn bs bp bd n lo hi w (by omega)).mono ?_
    rintro e w' ⟨rfl, rfl⟩
    refine ⟨fun _ => 0, none, by simp [sm, wrap64], T.nil _ _ _, fun i _ _ => by omega, fun i j _ _ => by omega, hD.congr (fun i _ => ?_), Only.refl _ _⟩
    rw [if_neg (by omega)]
  induction k with
  | zero =>
    intro l h lo hi D w hlo hhi hk hlh hn hg hD
    exact base l h lo hi D w hlo hhi (by omega) hD
  | succ k ih =>
    intro l h lo hi D w hlo hhi hk hlh hn hg hD
    by_cases hlt : l < h
    · subst hlo; subst hhi
      obtain ⟨m, hm⟩ : ∃ m, m = top S l (h - l - 1) := ⟨_, rfl⟩
      have hmb := top_bd S l (h - l - 1)
      rw [← hm] at hmb
      have hml : l ≤ m := hmb.1
      have hmh : m < h := by omega
      have only0 : ∀ {nq w1}, Only (fun k => k = bd) (w.drewN nq) w1 → Only (fun k => k = bd) w w1 := fun {nq} _ ho => (Only.drewN _ w nq).trans ho
      refine (build_step N S P bn bs bp bd n l h m (wrap64 (sm N l (m - l))) (wrap64 (sm N (m + 1) (h - (m + 1)))) w
        (fun g p w1 => Built N S P bd n l m D w w1 p g)
        (fun g w1 g' q w2 => Built N S P bd n (m + 1) h (fun i => if l ≤ i ∧ i < m then nodeAt g i else D i) w1 w2 q g') hg hlt hn hbig hm ?_ ?_ ?_).mono ?_
      · intro nq
        refine (ih l m l m D (w.drewN nq) rfl rfl (by omega) hml (by omega) (hg.only (Only.drewN _ w nq)) hD).mono ?_
        rintro e w1 ⟨g, p, he, hb⟩
        exact ⟨g, p, he, hb.tree, hb.fresh, hb.inj, hb.nodes, only0 hb.only⟩
      · intro g p w1 hb
        exact ih (m + 1) h _ _ _ w1 (by simp) rfl (by omega) (by omega) hn (hg.only hb.only) hb.nodes
      · intro g p w1 g' q w2 hb1 hb2
        exact ⟨(hg.only hb1.only).only hb2.only, _, hb2.nodes⟩
      · rintro e w' ⟨g, p, w1, g', q, w2, s, hb1, hb2, hs, rfl, hh, ho, ht, hu⟩
        rw [wrap64_split N hml hmh] at hs
        subst hs
        have hbd2 : bd < w2.heap.size := hb2.nodes.lt
        -- the world behind the two calls, the store and the new node
        have o3 : Only (fun k => k = bd) w2 w' := (((Only.refl (fun k => k = bd) w2).setCell (p := ⟨bd, m, none⟩) (fun _ => rfl) _).alloc _).of_heap hh ho ht hu
        have s2 : w'.heap.size = w2.heap.size + 1 := by rw [hh]; simp
        have s1 := hb2.only.size
        have s0 := hb1.only.size
        have new : w'.heap[w2.heap.size]? = some (node (N m) (wrap64 (sm N l (h - l))) (P m) p q) := by
          rw [hh]; show (Array.push _ _)[_]? = _
          rw [Array.getElem?_push, if_pos (by simp)]
        have old : bd < w.heap.size := hD.lt
        obtain ⟨blk, hblk⟩ : ∃ blk : Nat → Nat, ∀ i, blk i = if i < m then g i else if i = m then w2.heap.size else g' i := ⟨_, fun _ => rfl⟩
        have b1 : ∀ i, i < m → blk i = g i := fun i hi => by rw [hblk, if_pos hi]
        have b2 : blk m = w2.heap.size := by rw [hblk, if_neg (by omega), if_pos rfl]
        have b3 : ∀ i, m < i → blk i = g' i := fun i hi => by rw [hblk, if_neg (by omega), if_neg (by omega)]
        refine ⟨blk, _, rfl, ?_, ?_, ?_, ?_, ?_⟩
        · have e : h - l = (h - l - 1) + 1 := by omega
          rw [e]
          refine Or.inr ⟨m, p, q, hml, hmh, hm, by rw [b2], by rw [b2]; exact new, ?_, ?_⟩
          · refine (T.blk ?_ (fun i _ hi => b1 i hi)).more (show m - l ≤ h - l - 1 by omega)
            refine (hb1.tree.only hb2.only (fun i x1 x2 y => ?_)).only o3 (fun i x1 x2 y => ?_)
            · have := (hb1.fresh i x1 x2).1; omega
            · have := (hb1.fresh i x1 x2).1; omega
          · refine (T.blk ?_ (fun i hi _ => b3 i (by omega))).more (show h - (m + 1) ≤ h - l - 1 by omega)
            exact hb2.tree.only o3 (fun i x1 x2 y => by have := (hb2.fresh i x1 x2).1; omega)
        · intro i x1 x2
          by_cases c1 : i < m
          · rw [b1 i c1]; have := hb1.fresh i x1 c1; omega
          · by_cases c2 : i = m
            · subst c2; rw [b2]; omega
            · rw [b3 i (by omega)]; have := hb2.fresh i (by omega) x2; omega
        · intro i j x1 x2 y1 y2 he
          by_cases c1 : i < m
          · have f1 := hb1.fresh i x1 c1
            rw [b1 i c1] at he
            by_cases d1 : j < m
            · rw [b1 j d1] at he; exact hb1.inj i j x1 c1 y1 d1 he
            · by_cases d2 : j = m
              · subst d2; rw [b2] at he; omega
              · rw [b3 j (by omega)] at he; have := hb2.fresh j (by omega) y2; omega
          · by_cases c2 : i = m
            · subst c2
              rw [b2] at he
              by_cases d1 : j < i
              · rw [b1 j d1] at he; have := hb1.fresh j y1 d1; omega
              · by_cases d2 : j = i
                · exact d2.symm
                · rw [b3 j (by omega)] at he; have := hb2.fresh j (by omega) y2; omega
            · rw [b3 i (by omega)] at he
              have f1 := hb2.fresh i (by omega) x2
              by_cases d1 : j < m
              · rw [b1 j d1] at he; have := hb1.fresh j y1 d1; omega
              · by_cases d2 : j = m
                · subst d2; rw [b2] at he; omega
                · rw [b3 j (by omega)] at he; exact hb2.inj i j (by omega) x2 (by omega) y2 he
        · have hrow := (hb2.nodes.set m (.pointer (some ⟨w2.heap.size, 0, none⟩))).alloc (node (N m) (wrap64 (sm N l (h - l))) (P m) p q)
          refine (hrow.of_block (by rw [hh])).congr (fun i hi => ?_)
          by_cases c2 : i = m
          · subst c2; rw [if_pos rfl, if_pos ⟨hml, hmh⟩, nodeAt, b2]
          · rw [if_neg c2]
            by_cases c1 : i < m
            · rw [if_neg (by omega)]
              by_cases c3 : l ≤ i
              · rw [if_pos ⟨c3, c1⟩, if_pos ⟨c3, by omega⟩, nodeAt, nodeAt, b1 i c1]
              · rw [if_neg (by omega), if_neg (by omega)]
            · by_cases c3 : i < h
              · rw [if_pos ⟨by omega, c3⟩, if_pos ⟨by omega, c3⟩, nodeAt, nodeAt, b3 i (by omega)]
              · rw [if_neg (by omega), if_neg (by omega), if_neg (by omega)]
        · exact (hb1.only.trans hb2.only).trans o3
    · exact base l h lo hi D w hlo hhi (by omega) hD
end Go.Proofs.Qxb6602551a

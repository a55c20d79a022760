/-
  THE WALKS of cloneBytes, bytesEqual, sameParts.
-/
import Derived.Test.Qxb6602551aRead
namespace Go.Proofs.Qxb6602551a
open Go.RowKit

theorem infoB5 : (Try.prog.info? 5).map (fun i => (i.zero, i.size, i.bytes)) = some (some (.int .u8 0), 1, 1) := by kernel_rfl
theorem eqlNil23 (w : World) (a : Option Addr) (n c n' c' : Nat) : (binOp .eql 23 (.slice a n c) (.slice none n' c')).run Try.prog w = .ok (.bool a.isNone) w := Lib.run_eql_slice_nil w 23 5 a n c n' c' Try.underlying23
theorem neqNil23 (w : World) (a : Option Addr) (n c n' c' : Nat) : (binOp .neq 23 (.slice a n c) (.slice none n' c')).run Try.prog w = .ok (.bool (!a.isNone)) w := run_neq_slice_nil_any w 23 5 a n c n' c' Try.underlying23
theorem neqNil22 (w : World) (a : Option Addr) (n c n' c' : Nat) : (binOp .neq 22 (.slice a n c) (.slice none n' c')).run Try.prog w = .ok (.bool (!a.isNone)) w := run_neq_slice_nil_any w 22 56 a n c n' c' Try.underlying22

/-- A row of bytes, filled up to k. -/
def bfill (t : List Int) (k j : Nat) : Value := .int .u8 (if j < k then t.getD j 0 else 0)

theorem bfill_step {w : World} {b e n k : Nat} {t : List Int} {u : Int} (h : w.rowIs b e n (bfill t k)) (hu : t[k]? = some u) : (w.setCell ⟨b, k, none⟩ (.int .u8 u)).rowIs b e n (bfill t (k + 1)) := by
  refine (h.set k _).congr (fun j _ => ?_)
  by_cases e : j = k
  · subst e; simp [bfill, List.getD, hu]
  · rw [if_neg e]
    simp only [bfill]
    by_cases e' : j < k
    · rw [if_pos e', if_pos (by omega)]
    · rw [if_neg e', if_neg (by omega)]

/-- A filled row is a text. -/
theorem bfill_txt {w : World} {b e : Nat} {t : List Int} (h : w.rowIs b e t.length (bfill t t.length)) : TxtAt (fun k => k = b) w (some ⟨b, 0, none⟩) t := by
  intro i u hu
  have hi : i < t.length := (List.getElem?_eq_some_iff.1 hu).1
  refine ⟨b, 0, rfl, rfl, ?_⟩
  have := h.cell hi
  rw [Nat.zero_add, this, bfill, if_pos hi, List.getD, hu]
  rfl

/-! ### cloneBytes -/
set_option maxHeartbeats 1000000 in
theorem clone_any (G : Nat → Prop) (a : Option Addr) (c : Nat) (t : List Int) (w : World) (ht : TxtAt G w a t) (hl : t.length ≤ 1048576) :
    Calls Try.prog 18 #[.slice a t.length c] w fun e w' => ∃ a', e = .returned (.slice a' t.length t.length) ∧ TxtAt (fun b => b = w.heap.size) w' a' t ∧ Below w.heap.size w w' := by
  have hnil := eqlNil23
  cases a with
  | none =>
    have h0 : t = [] := by
      cases t with
      | nil => rfl
      | cons x t => obtain ⟨b, off, h, _⟩ := ht 0 x rfl; cases h
    subst h0
    go_enter Try.func18, Try.ntmps18
    go_wp2
    go_ret
    exact ⟨none, rfl, (fun i u h => by simp at h), Below.refl _ _⟩
  | some ad =>
    have Ht : Hid (TxtAt G w (some ad) t) := ht
    clear ht
    obtain ⟨n, hn⟩ : ∃ n, n = t.length := ⟨_, rfl⟩
    rw [← hn] at hl ⊢
    have Hn : Hid _ := hn
    clear hn
    have hmk := run_make_row' (P := Try.prog) 23 5 (.int .u8 0) 1 Try.underlying23 infoB5 rfl .i64 .i64 n (by omega) (by omega)
    go_enter Try.func18, Try.ntmps18
    go_wp2
    clear hmk hnil
    go_loopw [4] (fun i wr => ∃ k : Nat, k ≤ n ∧ i = .int .i64 k ∧ Below w.heap.size w wr ∧ wr.rowIs w.heap.size 5 n (bfill t k)) (fun i _ => (n - intOf i).toNat)
    case atStart => exact ⟨0, Nat.zero_le _, rfl, (Below.refl _ _).alloc (Nat.le_refl _) _, (World.rowIs_made w (.int .u8 0) n 5).congr (fun i _ => by simp [bfill])⟩
    case round =>
      obtain ⟨k, hk, rfl, hb, hrow⟩ := hrel
      by_cases hlt : k < n
      · have hlt' : (k : Int) < n := by omega
        obtain ⟨u, hu⟩ : ∃ u, t[k]? = some u := ⟨t[k]'(by rw [← Hn.out]; exact hlt), List.getElem?_eq_getElem _⟩
        obtain ⟨b, off, hab, _, hc⟩ := Ht.out k u hu
        injection hab with hab
        subst hab
        have hbl : b < w.heap.size := World.block_lt_of_cell? w _ hc
        rw [← hb.cell (p := ⟨b, off + k, none⟩) hbl] at hc
        have c1 := hrow.cell (i := k) hlt
        have f1 := hrow.frozen k
        have HB : Hid (Below w.heap.size w wr) := hb
        have HR : Hid (wr.rowIs w.heap.size 5 n (bfill t k)) := hrow
        have HU : Hid (t[k]? = some u) := hu
        clear hb hrow hu
        go_wp2
        exact ⟨⟨k + 1, by omega, by go_num, HB.out.setCell (Nat.le_refl _) _, bfill_step HR.out HU.out⟩, by simp [intOf]; omega⟩
      · obtain rfl : n = k := by omega
        have HB : Hid (Below w.heap.size w wr) := hb
        have HR : Hid (wr.rowIs w.heap.size 5 n (bfill t n)) := hrow
        clear hb hrow
        go_wp2
        go_ret
        exact ⟨some ⟨w.heap.size, 0, none⟩, rfl, bfill_txt (by have := HR.out; rw [Hn.out] at this; exact this), HB.out⟩

/-- Behind draws alone. -/
def Drawn' (w w' : World) : Prop := ∃ n, w' = w.drewN n
theorem Drawn'.refl (w : World) : Drawn' w w := ⟨0, rfl⟩
theorem Drawn'.trans {a b c : World} (h : Drawn' a b) (k : Drawn' b c) : Drawn' a c := by
  obtain ⟨n, rfl⟩ := h
  obtain ⟨m, rfl⟩ := k
  exact ⟨n + m, by simp [World.drewN, Nat.add_assoc]⟩
theorem Drawn'.heap {w w' : World} (h : Drawn' w w') : w'.heap = w.heap := by obtain ⟨n, rfl⟩ := h; rfl
theorem Drawn'.cell {w w' : World} (h : Drawn' w w') (a : Addr) : w'.cell? a = w.cell? a := by obtain ⟨n, rfl⟩ := h; rfl
theorem Drawn'.below {w w' : World} (h : Drawn' w w') (B : Nat) : Below B w w' := by obtain ⟨n, rfl⟩ := h; exact ⟨rfl, rfl, rfl, Nat.le_refl _, fun _ _ => rfl⟩

/-! ### bytesEqual, at two texts that are one -/
set_option maxHeartbeats 1000000 in
theorem bytesEqual_same (G H : Nat → Prop) (a a1 : Option Addr) (c c1 : Nat) (t : List Int) (w : World) (h0 : TxtAt G w a t) (h1 : TxtAt H w a1 t) (hl : t.length ≤ 4000000) :
    Calls Try.prog 33 #[.slice a t.length c, .slice a1 t.length c1] w fun e w' => e = .returned (.bool true) ∧ ∃ nq, w' = w.drewN nq := by
  have H0 : Hid (TxtAt G w a t) := h0
  have H1 : Hid (TxtAt H w a1 t) := h1
  clear h0 h1
  obtain ⟨n, hn⟩ : ∃ n, n = t.length := ⟨_, rfl⟩
  rw [← hn] at hl ⊢
  have Hn : Hid _ := hn
  clear hn
  go_enter Try.func33, Try.ntmps33
  go_wp2
  go_loopw [5] (fun i wr => ∃ k : Nat, k ≤ n ∧ i = .int .i64 k ∧ ∃ nq, wr = w.drewN nq) (fun i _ => (n - intOf i).toNat)
  case atStart => exact ⟨0, Nat.zero_le _, rfl, 0, rfl⟩
  case round =>
    obtain ⟨k, hk, rfl, nq, rfl⟩ := hrel
    by_cases hlt : k < n
    · have hlt' : (k : Int) < n := by omega
      obtain ⟨u, hu⟩ : ∃ u, t[k]? = some u := ⟨t[k]'(by rw [← Hn.out]; exact hlt), List.getElem?_eq_getElem _⟩
      obtain ⟨b, off, ha, _, hc⟩ := H0.out k u hu
      obtain ⟨b1, off1, ha1, _, hc1⟩ := H1.out k u hu
      subst ha; subst ha1
      clear hu
      go_wp2
      go_quiet (fail)
      go_wp2
      exact ⟨⟨k + 1, by omega, by go_num, _, rfl⟩, by simp [intOf]; omega⟩
    · go_wp2
      go_ret
      exact ⟨rfl, _, rfl⟩

/-! ### sameParts, at two lists that are one -/
set_option maxHeartbeats 1000000 in
theorem sameParts_same (G H G' H' : Nat → Prop) (a a1 : Option Addr) (c c1 : Nat) (L : List Pt) (w : World) (h0 : PartsAt G H w a L) (h1 : PartsAt G' H' w a1 L) (hl : L.length ≤ 5000) (hT : ∀ (i : Nat) (p : Pt), L[i]? = some p → p.2.2.length ≤ 4000000) :
    Calls Try.prog 15 #[.slice a L.length c, .slice a1 L.length c1] w fun e w' => e = .returned (.bool true) ∧ ∃ nq, w' = w.drewN nq := by
  have H0 : Hid (PartsAt G H w a L) := h0
  have H1 : Hid (PartsAt G' H' w a1 L) := h1
  have HT : Hid _ := hT
  clear h0 h1 hT
  obtain ⟨n, hn⟩ : ∃ n, n = L.length := ⟨_, rfl⟩
  rw [← hn] at hl ⊢
  have Hn : Hid _ := hn
  clear hn
  go_enter Try.func15, Try.ntmps15
  go_wp2
  go_loopw [5] (fun i wr => ∃ k : Nat, k ≤ n ∧ i = .int .i64 k ∧ ∃ nq, wr = w.drewN nq) (fun i _ => (n - intOf i).toNat)
  case atStart => exact ⟨0, Nat.zero_le _, rfl, 0, rfl⟩
  case round =>
    obtain ⟨k, hk, rfl, nq, hwr⟩ := hrel
    by_cases hlt : k < n
    · have hlt' : (k : Int) < n := by omega
      obtain ⟨p, hp⟩ := at_lt (L := L) (k := k) (by rw [← Hn.out]; exact hlt)
      obtain ⟨b, off, ta, tc, ha, _, d1, d2, d3, t0⟩ := H0.out k p hp
      obtain ⟨b1, off1, ta1, tc1, ha1, _, d4, d5, d6, t1⟩ := H1.out k p hp
      subst ha; subst ha1
      have ht := HT.out k p hp
      have D : Drawn' w wr := ⟨nq, hwr⟩
      clear hwr hp
      rw [← D.cell] at d1 d2 d3 d4 d5 d6
      have T0 : Hid (TxtAt H wr ta p.2.2) := t0.below (D.below _)
      have T1 : Hid (TxtAt H' wr ta1 p.2.2) := t1.below (D.below _)
      clear t0 t1
      go_wp2
      go_quiet (fail)
      go_wp2
      clear d1 d2 d4 d5
      generalize hw2 : wr.drewN nq = w2
      have D2 : Drawn' wr w2 := ⟨nq, hw2.symm⟩
      clear hw2
      have T2 : Hid (TxtAt H w2 ta p.2.2) := T0.out.below (D2.below _)
      have T3 : Hid (TxtAt H' w2 ta1 p.2.2) := T1.out.below (D2.below _)
      rw [← D2.cell] at d3 d6
      go_quiet ((go_at_call 33; exact Calls.quiet_of (bytesEqual_same H H' ta ta1 tc tc1 p.2.2 _ (by exact T2.out) (by exact T3.out) ht)))
      go_wp2
      exact ⟨⟨k + 1, by omega, by go_num, (D.trans D2).trans ⟨_, rfl⟩⟩, by simp [intOf]; omega⟩
    · subst hwr
      go_wp2
      go_ret
      exact ⟨rfl, _, rfl⟩
end Go.Proofs.Qxb6602551a

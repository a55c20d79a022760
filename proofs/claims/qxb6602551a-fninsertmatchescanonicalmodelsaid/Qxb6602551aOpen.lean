/-
  THE WALKS of buildOp and readOp: an operation is made of deep copies; its parts are read out by deep copies.
-/
import Derived.Test.Qxb6602551aClone
namespace Go.Proofs.Qxb6602551a
open Go.RowKit

set_option maxHeartbeats 400000 in
theorem newPart_any (k n : Int) (ta : Option Addr) (tl tc : Nat) (w : World) :
    Calls Try.prog 25 #[.int .i64 k, .int .i64 n, .slice ta tl tc] w fun e w' => e = .returned (.agg #[.int .i64 k, .int .i64 n, .slice ta tl tc]) ∧ w' = w.alloc (.cells #[.int .i64 k, .int .i64 n, .slice ta tl tc] 60) := by
  go_enter Try.func25, Try.ntmps25
  go_wp2
  exact bodyPost_ret (v := .agg #[.int .i64 k, .int .i64 n, .slice ta tl tc]) (by simp [results, Try.results25, go_sem]) rfl ⟨rfl, rfl⟩

set_option maxHeartbeats 400000 in
theorem newOp_any (a : Option Addr) (l c : Nat) (w : World) :
    Calls Try.prog 26 #[.slice a l c] w fun e w' => e = .returned (.pointer (some ⟨w.heap.size, 0, none⟩)) ∧ w' = w.alloc (.cells #[.slice a l c] 76) := by
  go_enter Try.func26, Try.ntmps26
  go_wp2
  go_ret
  exact ⟨rfl, rfl⟩

theorem info60 : (Try.prog.info? 60).map (fun i => (i.zero, i.size, i.bytes)) = some (some (.agg #[.int .i64 0, .int .i64 0, .slice none 0 0]), 3, 40) := by kernel_rfl
theorem info56 : (Try.prog.info? 56).map (fun i => (i.zero, i.size, i.bytes)) = some (some (.agg #[.int .i64 0, .int .i64 0, .slice none 0 0]), 3, 40) := by kernel_rfl

theorem below_of_drew {B : Nat} {w w1 : World} (h : Below B w.drew w1) : Below B w w1 := ⟨h.os, h.tape, h.output, h.size, h.block⟩

/-- 'make' at a type of three cells. -/
theorem make3 (t e : Nat) (ht : Try.prog.underlying t = some (.slice e)) (hinfo : (Try.prog.info? e).map (fun i => (i.zero, i.size, i.bytes)) = some (some (.agg #[.int .i64 0, .int .i64 0, .slice none 0 0]), 3, 40))
    (n : Nat) (hn : n ≤ 100000) (w : World) :
    (Instr.makeSlice t (.int .i64 (n : Int)) (.int .i64 (n : Int))).run Try.prog w = .ok (.slice (some ⟨w.heap.size, 0, none⟩) n n) (w.alloc (.cells (madeCells #[.int .i64 0, .int .i64 0, .slice none 0 0] (n * 3)) e)) := by
  obtain ⟨i, hi, hzz⟩ := Option.map_eq_some_iff.1 hinfo
  simp only [Prod.mk.injEq] at hzz
  obtain ⟨hz, hs, hb⟩ := hzz
  have hr := run_make (P := Try.prog) w t e i _ ht hi hz .i64 .i64 n n (by omega) (Int.le_refl _) (by rw [hb]; omega) (by omega)
  simp only [Int.toNat_natCast, hs] at hr
  exact hr

/-- What the cells of an array of parts list. -/
def Lists (G : Nat → Prop) (w : World) (F : Nat → Value) (L : List Pt) : Prop :=
  ∀ i p, L[i]? = some p → F (i * 3) = .int .i64 p.1 ∧ F (i * 3 + 1) = .int .i64 p.2.1 ∧ ∃ ta, F (i * 3 + 2) = .slice ta p.2.2.length p.2.2.length ∧ TxtAt G w ta p.2.2

theorem Lists.carry {G G' : Nat → Prop} {w w' : World} {F : Nat → Value} {L : List Pt} (h : Lists G w F L) (hG : ∀ b, G b → b < w.heap.size → G' b) (hk : ∀ b, G b → b < w.heap.size → w'.heap[b]? = w.heap[b]?) : Lists G' w' F L := by
  intro i p hp
  obtain ⟨a, b, ta, c, d⟩ := h i p hp
  refine ⟨a, b, ta, c, fun j u hu => ?_⟩
  obtain ⟨b', off, h1, h2, h3⟩ := d j u hu
  have hl := World.block_lt_of_cell? w _ h3
  exact ⟨b', off, h1, hG b' h2 hl, by rw [World.cell?_of_block (w := w) (hk b' h2 hl)]; exact h3⟩

theorem TxtAt.carry' {G G' : Nat → Prop} {w w' : World} {a : Option Addr} {t : List Int} (h : TxtAt G w a t) (hG : ∀ b, G b → b < w.heap.size → G' b)
    (hk : ∀ b, G b → b < w.heap.size → w'.heap[b]? = w.heap[b]?) : TxtAt G' w' a t := by
  intro i u hu
  obtain ⟨b, off, h1, h2, h3⟩ := h i u hu
  have hl := World.block_lt_of_cell? w _ h3
  exact ⟨b, off, h1, hG b h2 hl, by rw [World.cell?_of_block (w := w) (hk b h2 hl)]; exact h3⟩

/-- Three cells, part k's, laid anew. -/
def put3 (F : Nat → Value) (k : Nat) (v0 v1 v2 : Value) (j : Nat) : Value := if j = k * 3 + 2 then v2 else if j = k * 3 + 1 then v1 else if j = k * 3 then v0 else F j

theorem row_put3 {w : World} {B e N : Nat} {F : Nat → Value} (h : w.rowIs B e N F) (k : Nat) (v0 v1 v2 : Value) :
    (((w.setCell ⟨B, k * 3, none⟩ v0).setCell ⟨B, k * 3 + 1, none⟩ v1).setCell ⟨B, k * 3 + 2, none⟩ v2).rowIs B e N (put3 F k v0 v1 v2) := ((h.set (k * 3) v0).set (k * 3 + 1) v1).set (k * 3 + 2) v2

theorem Lists.snoc {G : Nat → Prop} {w : World} {F : Nat → Value} {L : List Pt} (h : Lists G w F L) {p : Pt} {ta : Option Addr} (ht : TxtAt G w ta p.2.2) :
    Lists G w (put3 F L.length (.int .i64 p.1) (.int .i64 p.2.1) (.slice ta p.2.2.length p.2.2.length)) (L ++ [p]) := by
  intro i q hq
  by_cases e : i < L.length
  · rw [List.getElem?_append_left e] at hq
    obtain ⟨a, b, ta', c, d⟩ := h i q hq
    refine ⟨?_, ?_, ta', ?_, d⟩
    · rw [put3, if_neg (by omega), if_neg (by omega), if_neg (by omega)]; exact a
    · rw [put3, if_neg (by omega), if_neg (by omega), if_neg (by omega)]; exact b
    · rw [put3, if_neg (by omega), if_neg (by omega), if_neg (by omega)]; exact c
  · have hi : i < (L ++ [p]).length := (List.getElem?_eq_some_iff.1 hq).1
    simp at hi
    obtain rfl : i = L.length := by omega
    rw [List.getElem?_append_right (Nat.le_refl _)] at hq
    simp at hq
    subst hq
    refine ⟨?_, ?_, ta, ?_, ht⟩
    · rw [put3, if_neg (by omega), if_neg (by omega), if_pos rfl]
    · rw [put3, if_neg (by omega), if_pos rfl]
    · rw [put3, if_pos rfl]

set_option maxHeartbeats 1000000 in
theorem buildOp_some (G H : Nat → Prop) (ad : Addr) (c : Nat) (L : List Pt) (w : World) (hp : PartsAt G H w (some ad) L) (hl : L.length ≤ 4096) (hT : tot L ≤ 1048576) :
    Calls Try.prog 11 #[.slice (some ad) L.length c] w fun e w' => ∃ bo F, e = .returned (.pointer (some ⟨bo, 0, none⟩)) ∧ w'.heap[bo]? = some (.cells #[.slice (some ⟨w.heap.size, 0, none⟩) L.length L.length] 76 (0, 0)) ∧
      w'.rowIs w.heap.size 60 (L.length * 3) F ∧ Lists (fun b => w.heap.size < b ∧ b ≠ bo) w' F L ∧ w.heap.size < bo ∧ Below w.heap.size w w' := by
  have Hp : Hid (PartsAt G H w (some ad) L) := hp
  clear hp
  obtain ⟨n, hn⟩ : ∃ n, n = L.length := ⟨_, rfl⟩
  rw [← hn] at hl ⊢
  have Hn : Hid _ := hn
  clear hn
  have hnil := neqNil22
  have hmk := make3 57 60 Try.underlying57 info60 n (by omega)
  go_enter Try.func11, Try.ntmps11
  go_wp2_with fail
  clear hmk hnil
  go_loopw [4] (fun i wr => ∃ (k : Nat) (F : Nat → Value), k ≤ n ∧ i = .int .i64 k ∧ Below w.heap.size w wr ∧ wr.rowIs w.heap.size 60 (n * 3) F ∧ Lists (fun b => w.heap.size < b ∧ b < wr.heap.size) wr F (L.take k)) (fun i _ => (n - intOf i).toNat)
  case atStart =>
    obtain ⟨F, hF⟩ : ∃ F, (w.alloc (.cells (madeCells #[.int .i64 0, .int .i64 0, .slice none 0 0] (n * 3)) 60)).rowIs w.heap.size 60 (n * 3) F :=
      ⟨fun i => (madeCells #[.int .i64 0, .int .i64 0, .slice none 0 0] (n * 3)).getD i undef, _, Deep.blk_alloc_new _ _, size_madeCells _ _, fun i hi => by
        simp [Array.getD, size_madeCells, hi]⟩
    exact ⟨0, F, Nat.zero_le _, rfl, (Below.refl _ _).alloc (Nat.le_refl _) _, hF, fun i p h => by simp at h⟩
  case round =>
    obtain ⟨k, F, hk, rfl, hb, hrow, hL⟩ := hrel
    by_cases hlt : k < n
    · have hlt' : (k : Int) < n := by omega
      obtain ⟨p, hp⟩ := at_lt (L := L) (k := k) (by rw [← Hn.out]; exact hlt)
      obtain ⟨b, off, ta, tc, hab, _, d1, d2, d3, t0⟩ := Hp.out k p hp
      injection hab with hab
      subst hab
      have hbl : b < w.heap.size := World.block_lt_of_cell? w _ d1
      have hbw : b < wr.heap.size := Nat.lt_of_lt_of_le hbl hb.size
      have hrw : w.heap.size < wr.heap.size := hrow.lt
      have hne : w.heap.size ≠ b := by omega
      have ht := text_le hp
      rw [← hb.cell hbl] at d1 d2 d3
      have T0 : Hid (TxtAt H wr ta p.2.2) := t0.below hb
      have HB : Hid (Below w.heap.size w wr) := hb
      have HR : Hid (wr.rowIs w.heap.size 60 (n * 3) F) := hrow
      have HL : Hid (Lists (fun b => w.heap.size < b ∧ b < wr.heap.size) wr F (L.take k)) := hL
      have HP : Hid (L[k]? = some p) := hp
      clear t0 hb hrow hL hp
      obtain ⟨kp, np, t⟩ := p
      simp only at d1 d2 d3 ht
      go_wp2_with fail
      go_region_held (fun w' => w'.cell? ⟨b, off + k * 3, none⟩ = some (.int .i64 kp) ∧ w'.cell? ⟨b, off + k * 3 + 1, none⟩ = some (.int .i64 np) ∧ w'.cell? ⟨b, off + k * 3 + 2, none⟩ = some (.slice ta t.length tc)) (go_keep)
        ((first
          | (go_at_call 18; go_must (
             refine (clone_any H ta tc t _ (by exact T0.out) (by omega)).mono ?_
             rintro e w1 ⟨a', rfl, t1, b1⟩
             have x1 : w1.cell? ⟨b, off + k * 3, none⟩ = some (.int .i64 kp) := by rw [b1.cell (p := ⟨b, off + k * 3, none⟩) hbw]; exact d1
             have x2 : w1.cell? ⟨b, off + k * 3 + 1, none⟩ = some (.int .i64 np) := by rw [b1.cell (p := ⟨b, off + k * 3 + 1, none⟩) hbw]; exact d2
             have x3 : w1.cell? ⟨b, off + k * 3 + 2, none⟩ = some (.slice ta t.length tc) := by rw [b1.cell (p := ⟨b, off + k * 3 + 2, none⟩) hbw]; exact d3
             have r1 : w1.rowIs w.heap.size 60 (n * 3) F := World.rowIs.of_block HR.out (b1.block _ hrw)
             have y1 := r1.cell (i := k * 3) (by omega)
             have y2 := r1.cell (i := k * 3 + 1) (by omega)
             have y3 := r1.cell (i := k * 3 + 2) (by omega)
             have z1 := r1.frozen (k * 3)
             have z2 := r1.frozen (k * 3 + 1)
             have z3 := r1.frozen (k * 3 + 2)
             have hl1 : w.heap.size < w1.heap.size := r1.lt
             have B1 : Hid (Below wr.heap.size wr w1) := below_of_drew b1
             have T1 : Hid (TxtAt (fun b => b = wr.heap.size) w1 a' t) := t1
             clear b1 t1 r1))
          | (go_at_call 25; refine (newPart_any _ _ _ _ _ _).mono ?_; rintro e w2 ⟨rfl, rfl⟩)))
      go_wp2_with fail
      have hw1 : wr.heap.size ≤ w1.heap.size := B1.out.size
      have hlen : (L.take k).length = k := by rw [List.length_take]; have := Hn.out; omega
      have e1 : L.take (k + 1) = L.take k ++ [(kp, np, t)] := take_snoc HP.out
      have r1 : w1.rowIs w.heap.size 60 (n * 3) F := World.rowIs.of_block HR.out (B1.out.block _ hrw)
      refine ⟨⟨k + 1, put3 F k (.int .i64 kp) (.int .i64 np) (.slice a' t.length t.length), by omega, by go_num, ?_, (row_put3 r1 k _ _ _).alloc _, ?_⟩, by simp [intOf]; omega⟩
      · exact ((((HB.out.trans (B1.out.mono (by omega))).setCell (Nat.le_refl _) _).setCell (Nat.le_refl _) _).setCell (Nat.le_refl _) _).alloc (by simp; omega) _
      · rw [e1]
        have l1 : Lists (fun b => w.heap.size < b ∧ b < w1.heap.size) w1 F (L.take k) := Lists.carry HL.out (fun b h _ => ⟨h.1, by omega⟩) (fun b _ h => B1.out.block b h)
        have l2 := l1.snoc (p := (kp, np, t)) (TxtAt.carry' T1.out (fun b h h' => ⟨by omega, h'⟩) (fun _ _ _ => rfl))
        rw [hlen] at l2
        have o1 : Only (fun b => b = w.heap.size) w1 ((((w1.setCell ⟨w.heap.size, k * 3, none⟩ (.int .i64 kp)).setCell ⟨w.heap.size, k * 3 + 1, none⟩ (.int .i64 np)).setCell ⟨w.heap.size, k * 3 + 2, none⟩ (.slice a' t.length t.length)).alloc
            (.cells #[.int .i64 kp, .int .i64 np, .slice a' t.length t.length] 60)) := ((((Only.refl (fun b => b = w.heap.size) w1).setCell (fun _ => rfl) _).setCell (fun _ => rfl) _).setCell (fun _ => rfl) _).alloc _
        exact l2.carry (fun b h h' => ⟨h.1, by simp; omega⟩) (fun b h h' => o1.block b h' (by omega))
    · obtain rfl : n = k := by omega
      have HB : Hid (Below w.heap.size w wr) := hb
      have HR : Hid (wr.rowIs w.heap.size 60 (n * 3) F) := hrow
      have HL : Hid (Lists (fun b => w.heap.size < b ∧ b < wr.heap.size) wr F (L.take n)) := hL
      clear hb hrow hL
      go_wp2_with (go_at_call 26; refine (newOp_any _ _ _ _).mono ?_; rintro e w2 ⟨rfl, rfl⟩)
      go_ret
      have hrw : w.heap.size < wr.heap.size := World.rowIs.lt HR.out
      have et : L.take n = L := by rw [Hn.out, List.take_length]
      have hl' := HL.out
      rw [et] at hl'
      exact ⟨wr.heap.size, F, rfl, Deep.blk_alloc_new _ _, World.rowIs.alloc HR.out _, Lists.carry hl' (fun b h h' => ⟨h.1, by omega⟩) (fun b h h' => Below.heap_alloc _ _ _ h'), hrw, HB.out.alloc (by omega) _⟩

set_option maxHeartbeats 400000 in
theorem buildOp_nil (c : Nat) (w : World) :
    Calls Try.prog 11 #[.slice none 0 c] w fun e w' => e = .returned (.pointer (some ⟨w.heap.size, 0, none⟩)) ∧ w' = w.alloc (.cells #[.slice none 0 0] 76) := by
  have hnil := neqNil22
  go_enter Try.func11, Try.ntmps11
  go_wp2_with fail
  refine wp_loop_rounds 1 ?_
  rw [rounds_succ]
  go_wp2_with (go_at_call 26; refine (newOp_any _ _ _ _).mono ?_; rintro e w2 ⟨rfl, rfl⟩)
  go_ret
  exact ⟨rfl, rfl⟩

/-! ### readOp -/
set_option maxHeartbeats 400000 in
theorem zzParts_any (bo : Nat) (a : Option Addr) (l c : Nat) (w : World) (h : w.cell? ⟨bo, 0, none⟩ = some (.slice a l c)) :
    Calls Try.prog 28 #[.pointer (some ⟨bo, 0, none⟩)] w fun e w' => e = .returned (.slice a l c) ∧ w = w' := by
  go_enter Try.func28, Try.ntmps28
  go_wp2
  go_ret
  exact ⟨rfl, rfl⟩
set_option maxHeartbeats 400000 in
theorem zzKind_any (k n : Int) (ta : Option Addr) (tl tc : Nat) (w : World) :
    Calls Try.prog 29 #[.agg #[.int .i64 k, .int .i64 n, .slice ta tl tc]] w fun e w' => e = .returned (.int .i64 k) ∧ w' = w.alloc (.cells #[.int .i64 k, .int .i64 n, .slice ta tl tc] 60) := by
  go_enter Try.func29, Try.ntmps29
  go_wp2
  go_ret
  exact ⟨rfl, rfl⟩
set_option maxHeartbeats 400000 in
theorem zzN_any (k n : Int) (ta : Option Addr) (tl tc : Nat) (w : World) :
    Calls Try.prog 30 #[.agg #[.int .i64 k, .int .i64 n, .slice ta tl tc]] w fun e w' => e = .returned (.int .i64 n) ∧ w' = w.alloc (.cells #[.int .i64 k, .int .i64 n, .slice ta tl tc] 60) := by
  go_enter Try.func30, Try.ntmps30
  go_wp2
  go_ret
  exact ⟨rfl, rfl⟩
set_option maxHeartbeats 400000 in
theorem zzText_any (k n : Int) (ta : Option Addr) (tl tc : Nat) (w : World) :
    Calls Try.prog 31 #[.agg #[.int .i64 k, .int .i64 n, .slice ta tl tc]] w fun e w' => e = .returned (.slice ta tl tc) ∧ w' = w.alloc (.cells #[.int .i64 k, .int .i64 n, .slice ta tl tc] 60) := by
  go_enter Try.func31, Try.ntmps31
  go_wp2
  go_ret
  exact ⟨rfl, rfl⟩
end Go.Proofs.Qxb6602551a

/-
  THE WALK of readOp: the parts of an operation, read out by deep copies.
-/
import Derived.Test.Qxb6602551aOpen
namespace Go.Proofs.Qxb6602551a
open Go.RowKit

/-- What an array lists, read as parts. -/
theorem Lists.parts {G : Nat → Prop} {w : World} {F : Nat → Value} {L : List Pt} {B e N : Nat} (h : Lists G w F L) (hr : w.rowIs B e N F) (hN : L.length * 3 ≤ N) : PartsAt (fun b => b = B) G w (some ⟨B, 0, none⟩) L := by
  intro i p hp
  have hi : i < L.length := (List.getElem?_eq_some_iff.1 hp).1
  obtain ⟨a, b, ta, c, d⟩ := h i p hp
  refine ⟨B, 0, ta, p.2.2.length, rfl, rfl, ?_, ?_, ?_, d⟩
  · rw [Nat.zero_add, hr.cell (by omega), a]
  · rw [Nat.zero_add, hr.cell (by omega), b]
  · rw [Nat.zero_add, hr.cell (by omega), c]

theorem cell_alloc3 (w : World) (o1 o2 o3 : Obj) (a : Addr) (h : a.block < w.heap.size) : (((w.alloc o1).alloc o2).alloc o3).drew.cell? a = w.cell? a := by
  show (((w.alloc o1).alloc o2).alloc o3).cell? a = w.cell? a
  rw [World.cell?_alloc_lt _ _ _ (by simp; omega), World.cell?_alloc_lt _ _ _ (by simp; omega), World.cell?_alloc_lt _ _ _ h]

theorem ge3 {b m : Nat} (h : b = m + 1 + 1 + 1) : m ≤ b := by omega

theorem below_of_alloc3 {B : Nat} {w w1 : World} {o1 o2 o3 : Obj} (h : Below (((w.alloc o1).alloc o2).alloc o3).drew.heap.size (((w.alloc o1).alloc o2).alloc o3).drew w1) (hB : B ≤ w.heap.size) : Below B w w1 :=
  ((((Below.refl B w).alloc hB o1).alloc (by simp; omega) o2).alloc (by simp; omega) o3).trans (below_of_drew (h.mono (by simp; omega)))

set_option maxHeartbeats 1000000 in
theorem readOp_any (G H : Nat → Prop) (bo : Nat) (a : Option Addr) (c : Nat) (L : List Pt) (w : World) (hc : w.cell? ⟨bo, 0, none⟩ = some (.slice a L.length c)) (hp : PartsAt G H w a L) (hl : L.length ≤ 5000) (hT : ∀ (i : Nat) (p : Pt), L[i]? = some p → p.2.2.length ≤ 1048576) :
    Calls Try.prog 13 #[.pointer (some ⟨bo, 0, none⟩)] w fun e w' => e = .returned (.slice (some ⟨w.heap.size, 0, none⟩) L.length L.length) ∧
      PartsAt (fun b => b = w.heap.size) (fun b => w.heap.size < b) w' (some ⟨w.heap.size, 0, none⟩) L ∧ Below w.heap.size w w' := by
  have Hp : Hid (PartsAt G H w a L) := hp
  have HT : Hid _ := hT
  clear hp hT
  obtain ⟨n, hn⟩ : ∃ n, n = L.length := ⟨_, rfl⟩
  rw [← hn] at hl hc ⊢
  have Hn : Hid _ := hn
  clear hn
  have hmk := make3 22 56 Try.underlying22 info56 n (by omega)
  go_enter Try.func13, Try.ntmps13
  go_wp2_with (go_at_call 28; refine (zzParts_any _ _ _ _ _ hc).mono ?_; rintro e w2 ⟨rfl, rfl⟩)
  clear hmk hc
  go_loopw [5] (fun i wr => ∃ (k : Nat) (F : Nat → Value), k ≤ n ∧ i = .int .i64 k ∧ Below w.heap.size w wr ∧ wr.rowIs w.heap.size 56 (n * 3) F ∧ Lists (fun b => w.heap.size < b ∧ b < wr.heap.size) wr F (L.take k)) (fun i _ => (n - intOf i).toNat)
  case atStart =>
    obtain ⟨F, hF⟩ : ∃ F, (w.alloc (.cells (madeCells #[.int .i64 0, .int .i64 0, .slice none 0 0] (n * 3)) 56)).rowIs w.heap.size 56 (n * 3) F :=
      ⟨fun i => (madeCells #[.int .i64 0, .int .i64 0, .slice none 0 0] (n * 3)).getD i undef, _, Deep.blk_alloc_new _ _, size_madeCells _ _, fun i hi => by
        simp [Array.getD, size_madeCells, hi]⟩
    exact ⟨0, F, Nat.zero_le _, rfl, (Below.refl _ _).alloc (Nat.le_refl _) _, hF, fun i p h => by simp at h⟩
  case round =>
    obtain ⟨k, F, hk, rfl, hb, hrow, hL⟩ := hrel
    by_cases hlt : k < n
    · have hlt' : (k : Int) < n := by omega
      obtain ⟨p, hp⟩ := at_lt (L := L) (k := k) (by rw [← Hn.out]; exact hlt)
      obtain ⟨b, off, ta, tc, hab, _, d1, d2, d3, t0⟩ := Hp.out k p hp
      subst hab
      have hbl : b < w.heap.size := World.block_lt_of_cell? w _ d1
      have hbw : b < wr.heap.size := Nat.lt_of_lt_of_le hbl hb.size
      have hrw : w.heap.size < wr.heap.size := hrow.lt
      have hne : w.heap.size ≠ b := by omega
      have ht := HT.out k p hp
      rw [← hb.cell hbl] at d1 d2 d3
      have T0 : Hid (TxtAt H wr ta p.2.2) := t0.below hb
      have HB : Hid (Below w.heap.size w wr) := hb
      have HR : Hid (wr.rowIs w.heap.size 56 (n * 3) F) := hrow
      have HL : Hid (Lists (fun b => w.heap.size < b ∧ b < wr.heap.size) wr F (L.take k)) := hL
      have HP : Hid (L[k]? = some p) := hp
      clear t0 hb hrow hL hp
      obtain ⟨kp, np, t⟩ := p
      simp only at d1 d2 d3 ht
      go_wp2_with fail
      go_region_held (fun w' => w'.cell? ⟨b, off + k * 3, none⟩ = some (.int .i64 kp) ∧ w'.cell? ⟨b, off + k * 3 + 1, none⟩ = some (.int .i64 np) ∧ w'.cell? ⟨b, off + k * 3 + 2, none⟩ = some (.slice ta t.length tc))
        (first | (go_keep; done) | exact ⟨(cell_alloc3 wr _ _ _ ⟨b, off + k * 3, none⟩ hbw).trans d1, (cell_alloc3 wr _ _ _ ⟨b, off + k * 3 + 1, none⟩ hbw).trans d2, (cell_alloc3 wr _ _ _ ⟨b, off + k * 3 + 2, none⟩ hbw).trans d3⟩)
        ((first
          | (go_at_call 29; refine (zzKind_any _ _ _ _ _ _).mono ?_; rintro e w2 ⟨rfl, rfl⟩)
          | (go_at_call 30; refine (zzN_any _ _ _ _ _ _).mono ?_; rintro e w2 ⟨rfl, rfl⟩)
          | (go_at_call 31; refine (zzText_any _ _ _ _ _ _).mono ?_; rintro e w2 ⟨rfl, rfl⟩)
          | (go_at_call 18; go_must (
             refine (clone_any H ta tc t _ ?_ (by omega)).mono ?_
             exact TxtAt.below T0.out (((Below.refl _ wr).alloc (Nat.le_refl _) _).alloc (by simp) _ |>.alloc (by simp; omega) _ |>.drew)
             rintro e w1 ⟨a', rfl, t1, b1⟩
             have b2 : Below wr.heap.size wr w1 := below_of_alloc3 (by exact b1) (Nat.le_refl _)
             have x1 : w1.cell? ⟨b, off + k * 3, none⟩ = some (.int .i64 kp) := by rw [b2.cell (p := ⟨b, off + k * 3, none⟩) hbw]; exact d1
             have x2 : w1.cell? ⟨b, off + k * 3 + 1, none⟩ = some (.int .i64 np) := by rw [b2.cell (p := ⟨b, off + k * 3 + 1, none⟩) hbw]; exact d2
             have x3 : w1.cell? ⟨b, off + k * 3 + 2, none⟩ = some (.slice ta t.length tc) := by rw [b2.cell (p := ⟨b, off + k * 3 + 2, none⟩) hbw]; exact d3
             have r1 : w1.rowIs w.heap.size 56 (n * 3) F := World.rowIs.of_block HR.out (b2.block _ hrw)
             have y1 := r1.cell (i := k * 3) (by omega)
             have y2 := r1.cell (i := k * 3 + 1) (by omega)
             have y3 := r1.cell (i := k * 3 + 2) (by omega)
             have z1 := r1.frozen (k * 3)
             have z2 := r1.frozen (k * 3 + 1)
             have z3 := r1.frozen (k * 3 + 2)
             have hl1 : w.heap.size < w1.heap.size := r1.lt
             have B1 : Hid (Below wr.heap.size wr w1) := b2
             have T1 : Hid (TxtAt (fun b => wr.heap.size ≤ b) w1 a' t) := TxtAt.carry t1 (fun b h => ge3 (by simpa using h)) (fun _ _ _ => rfl)
             clear b1 b2 t1 r1))))
      go_wp2_with fail
      have hw1 : wr.heap.size ≤ w1.heap.size := B1.out.size
      have hlen : (L.take k).length = k := by rw [List.length_take]; have := Hn.out; omega
      have e1 : L.take (k + 1) = L.take k ++ [(kp, np, t)] := take_snoc HP.out
      have r1 : w1.rowIs w.heap.size 56 (n * 3) F := World.rowIs.of_block HR.out (B1.out.block _ hrw)
      refine ⟨⟨k + 1, put3 F k (.int .i64 kp) (.int .i64 np) (.slice a' t.length t.length), by omega, by go_num, ?_, row_put3 r1 k _ _ _, ?_⟩, by simp [intOf]; omega⟩
      · exact (((HB.out.trans (B1.out.mono (by omega))).setCell (Nat.le_refl _) _).setCell (Nat.le_refl _) _).setCell (Nat.le_refl _) _
      · rw [e1]
        have l1 : Lists (fun b => w.heap.size < b ∧ b < w1.heap.size) w1 F (L.take k) := Lists.carry HL.out (fun b h _ => ⟨h.1, by omega⟩) (fun b _ h => B1.out.block b h)
        have l2 := l1.snoc (p := (kp, np, t)) (TxtAt.carry' T1.out (fun b h h' => ⟨by omega, h'⟩) (fun _ _ _ => rfl))
        rw [hlen] at l2
        have o1 : Only (fun b => b = w.heap.size) w1 (((w1.setCell ⟨w.heap.size, k * 3, none⟩ (.int .i64 kp)).setCell ⟨w.heap.size, k * 3 + 1, none⟩ (.int .i64 np)).setCell ⟨w.heap.size, k * 3 + 2, none⟩ (.slice a' t.length t.length)) :=
          (((Only.refl (fun b => b = w.heap.size) w1).setCell (fun _ => rfl) _).setCell (fun _ => rfl) _).setCell (fun _ => rfl) _
        exact l2.carry (fun b h h' => ⟨h.1, by simpa using h.2⟩) (fun b h h' => o1.block b h' (by omega))
    · obtain rfl : n = k := by omega
      have HB : Hid (Below w.heap.size w wr) := hb
      have HR : Hid (wr.rowIs w.heap.size 56 (n * 3) F) := hrow
      have HL : Hid (Lists (fun b => w.heap.size < b ∧ b < wr.heap.size) wr F (L.take n)) := hL
      clear hb hrow hL
      go_wp2_with fail
      go_ret
      have et : L.take n = L := by rw [Hn.out, List.take_length]
      have hl' := HL.out
      rw [et] at hl'
      have hl2 : Lists (fun b => w.heap.size < b) wr F L := Lists.carry hl' (fun b h _ => h.1) (fun _ _ _ => rfl)
      exact ⟨rfl, hl2.parts HR.out (by rw [← Hn.out]; omega), HB.out⟩
end Go.Proofs.Qxb6602551a

/-
  The walk of function 3 (the law 'Insert'): the Go text answers true for every list of parts and every text.
-/
import Derived.Test.Qxb6602551aTop
import Derived.Laws.IdiomCopy
namespace Go.Proofs.Qxb6602551a
open Go.RowKit

theorem size_setCells : ∀ (w : World) (b o : Nat) (vs : List Value), (w.setCells b o vs).heap.size = w.heap.size
  | _, _, _, [] => rfl
  | w, b, o, v :: r => by rw [World.setCells, size_setCells]; simp
theorem below_setCells : ∀ (w : World) (b o : Nat) (vs : List Value) {B : Nat}, B ≤ b → Below B w (w.setCells b o vs)
  | w, _, _, [], _, _ => Below.refl _ w
  | w, b, o, v :: r, B, h => ((Below.refl B w).setCell (p := ⟨b, o, none⟩) h v).trans (below_setCells (w.setCell ⟨b, o, none⟩ v) b (o + 1) r h)

/-- 'copy' into a row that was made just now: the world behind it. -/
theorem copied (ad : Addr) (ct : Nat) (text : List Int) (w : World) {Gt : Nat → Prop} (ht : TxtAt Gt w (some ad) text) :
    ∃ w1, (Builtin.copy_ #[23, 23] 3 #[.slice (some ⟨w.heap.size, 0, none⟩) text.length text.length, .slice (some ad) text.length ct]).run Try.prog (w.alloc (.cells (madeCells #[.int .u8 0] text.length) 5)) = .ok (goInt text.length) w1 ∧
      TxtAt (fun b => b = w.heap.size) w1 (some ⟨w.heap.size, 0, none⟩) text ∧ Below w.heap.size w w1 ∧ w1.heap.size = w.heap.size + 1 := by
  have r0 : (w.alloc (.cells (madeCells #[.int .u8 0] text.length) 5)).rowIs w.heap.size 5 text.length (fun _ => .int .u8 0) := World.rowIs_made w (.int .u8 0) text.length 5
  have hr := run_copy_cells (P := Try.prog) (w.alloc (.cells (madeCells #[.int .u8 0] text.length) 5)) 23 23 3 5 w.heap.size 0 text.length text.length ad text.length ct (bytes text) Try.underlying23 (by kernel_rfl) (by simp [bytes])
    (TxtAt.news (TxtAt.below ht ((Below.refl _ w).alloc (Nat.le_refl _) _))) (fun j hj => by rw [Nat.zero_add, r0.cell (by rw [bytes_length] at hj; exact hj)]; rfl) (fun j _ => r0.frozen _) (bytes_one text)
  rw [bytes_length] at hr
  refine ⟨_, hr, fun i u hu => ⟨w.heap.size, 0, rfl, rfl, ?_⟩, ?_, ?_⟩
  · have hi : i < (bytes text).length := by rw [bytes_length]; exact (List.getElem?_eq_some_iff.1 hu).1
    rw [World.cell?_setCells_in w.heap.size (bytes text) 0 _ (fun j hj => by rw [Nat.zero_add, r0.cell (by rw [bytes_length] at hj; exact hj)]; rfl) i hi]
    have : (bytes text)[i]? = some (.int .u8 u) := by simp [bytes, hu]
    rw [List.getElem?_eq_getElem hi] at this
    exact this
  · exact ((Below.refl _ w).alloc (Nat.le_refl _) _).trans (below_setCells _ _ _ _ (Nat.le_refl _))
  · rw [size_setCells]; simp

theorem canon_any (G H : Nat → Prop) (a : Option Addr) (c : Nat) (L : List Pt) (at' : Option Addr) (ct : Nat) (text : List Int) (w : World) (hp : PartsAt G H w a L) (hc : Canon L) (hl : L.length ≤ 4096) (hT : tot L ≤ 1048576) (hN : ∀ (i : Nat) (p : Pt), L[i]? = some p → p.2.1 ≤ 9223372036854775807)
    {Gt : Nat → Prop} (ht : TxtAt Gt w at' text) (hlt : text.length ≤ 1048576) :
    Calls Try.prog 14 #[.slice a L.length c, .slice at' text.length ct] w fun e w' => Modelled (fun R => Res L text R) w e w' := by
  by_cases h0 : text = []
  · subst h0
    refine (canon_none G H a c L at' ct w hp hc hl hT hN).mono ?_
    rintro e w' ⟨a', c', R, hR, he, h1, h2⟩
    exact ⟨a', c', R, Or.inl ⟨rfl, hR⟩, he, h1, h2⟩
  · obtain ⟨ad, had⟩ : ∃ ad, at' = some ad := by
      cases at' with
      | some x => exact ⟨x, rfl⟩
      | none =>
        cases text with
        | nil => exact absurd rfl h0
        | cons x r => obtain ⟨_, _, h, _⟩ := ht 0 x rfl; cases h
    subst had
    refine (canon_text G H a c L ad ct text w hp hc hl hT hN ht h0 hlt).mono ?_
    rintro e w' ⟨a', c', R, hR, he, h1, h2⟩
    exact ⟨a', c', R, Or.inr ⟨h0, hR⟩, he, h1, h2⟩

set_option maxRecDepth 100000 in
set_option maxHeartbeats 4000000 in
theorem top3_some (G H : Nat → Prop) (a : Option Addr) (c : Nat) (L : List Pt) (ad : Addr) (ct : Nat) (text : List Int) (w : World) (hp : PartsAt G H w a L) (hN : ∀ (i : Nat) (p : Pt), L[i]? = some p → p.2.1 ≤ 9223372036854775807)
    {Gt : Nat → Prop} (ht : TxtAt Gt w (some ad) text) (hlen : L.length ≤ maxLen) (hlt : text.length ≤ maxLen) (hTx : ∀ (i : Nat) (p : Pt), L[i]? = some p → p.2.2.length ≤ maxLen) :
    Calls Try.prog 3 #[.slice a L.length c, .slice (some ad) text.length ct] w fun e w' => e = .returned (.bool true) ∧ Below w.heap.size w w' := by
  have Hp : Hid (PartsAt G H w a L) := hp
  have Ht : Hid (TxtAt Gt w (some ad) text) := ht
  have HN : Hid (∀ (i : Nat) (p : Pt), L[i]? = some p → p.2.1 ≤ 9223372036854775807) := hN
  have HTx : Hid (∀ (i : Nat) (p : Pt), L[i]? = some p → p.2.2.length ≤ maxLen) := hTx
  have Hlen : Hid (L.length ≤ maxLen) := hlen
  have Hlt : Hid (text.length ≤ maxLen) := hlt
  clear hp hN ht hlen hlt hTx
  have hnil := neqNil23
  go_enter Try.func3, Try.ntmps3
  go_wp2_with fail
  refine (zz8_any G H a (some ad) c text.length ct L _ Hp.out Hlen.out Hlt.out HTx.out).mono ?_
  rintro e w' ⟨⟨r, rfl, hr⟩, hw'⟩
  subst hw'
  cases r with
  | false =>
    clear hr
    go_wp2_with fail
    go_ret
    exact ⟨rfl, Below.refl _ _⟩
  | true =>
    have hsz := hr rfl
    clear hr
    by_cases h4 : (4096 : Int) < L.length
    · go_wp2_with fail
      go_ret
      exact ⟨rfl, Below.refl _ _⟩
    · have hlL : L.length ≤ 4096 := by omega
      go_wp2_with fail
      refine (tooBig_any G H a c text.length L _ Hp.out hlL (by omega) (by omega)).mono ?_
      rintro e w' ⟨⟨r, rfl, _⟩, hw'⟩
      subst hw'
      cases r with
      | true =>
        go_wp2_with fail
        go_ret
        exact ⟨rfl, Below.refl _ _⟩
      | false =>
        go_wp2_with fail
        refine (isCanonical_any G H a c L _ Hp.out (by omega)).mono ?_
        rintro e w' ⟨⟨r, rfl, hr⟩, hw'⟩
        subst hw'
        cases r with
        | false =>
          clear hr
          go_wp2_with fail
          go_ret
          exact ⟨rfl, Below.refl _ _⟩
        | true =>
          have HC : Hid (Canon L) := hr.1 rfl
          obtain ⟨R, hR⟩ := res_exists L text HC.out
          have HRes : Hid (Res L text R) := hR
          clear hr hR
          have hmk := run_make_row' (P := Try.prog) 23 5 (.int .u8 0) 1 Try.underlying23 infoB5 rfl .i64 .i64 text.length (by omega) (by omega)
          obtain ⟨w1, hcp, t1, b1, s1⟩ := copied ad ct text w Ht.out
          have T1 : Hid (TxtAt (fun b => b = w.heap.size) w1 (some ⟨w.heap.size, 0, none⟩) text) := t1
          have B1 : Hid (Below w.heap.size w w1) := b1
          have S1 : Hid (w1.heap.size = w.heap.size + 1) := s1
          clear t1 b1 s1
          go_wp2_with fail
          have hsz2 := res_size HRes.out
          have hR5 : R.length ≤ 5000 := by omega
          have hRT : ∀ (i : Nat) (p : Pt), R[i]? = some p → p.2.2.length ≤ 1048576 := fun i p h => by have := hsz2.2 i p h; omega
          have HRT : Hid (∀ (i : Nat) (p : Pt), R[i]? = some p → p.2.2.length ≤ 1048576) := hRT
          clear hRT hsz2
          have hsz0 : w.heap.size ≤ w1.heap.size := B1.out.size
          have P1 : Hid (PartsAt G H w1 a L) := PartsAt.below Hp.out B1.out
          refine (buildOp_any G H a c L w1 P1.out hlL (by omega)).mono ?_
          rintro e w2 ⟨bo, rfl, st, b2⟩
          have ST : Hid (OpState w1.heap.size L w2 bo) := st
          have B2 : Hid (Below w1.heap.size w1 w2) := b2
          have hs2 := b2.size
          clear st b2
          go_wp2_with fail
          refine (zzInsert_any w1.heap.size bo L (some ⟨w.heap.size, 0, none⟩) text.length text R w2 ST.out HC.out hlL (by omega) (TxtAt.carry' T1.out (fun b _ h => h) (fun b _ h => B2.out.block b h)) (by omega) hs2 HRes.out).mono ?_
          rintro e w3 ⟨rfl, ⟨a3, c3, hcell, hparts⟩, b3⟩
          have P3 : Hid (PartsAt (fun _ => True) (fun _ => True) w3 a3 R) := hparts
          have B3 : Hid (Below w1.heap.size w2 w3) := b3
          have hs3 := b3.size
          clear hparts b3
          go_wp2_with fail
          refine (readOp_any _ _ bo a3 c3 R w3 hcell P3.out hR5 HRT.out).mono ?_
          rintro e w4 ⟨rfl, p4, b4⟩
          have P4 : Hid (PartsAt (fun b => b = w3.heap.size) (fun b => w3.heap.size < b) w4 (some ⟨w3.heap.size, 0, none⟩) R) := p4
          have B4 : Hid (Below w1.heap.size w1 w4) := (B2.out.trans B3.out).trans (b4.mono (by omega))
          have hs4 := b4.size
          clear p4 b4 hcell
          go_wp2_with fail
          refine (canon_any G H a c L (some ⟨w.heap.size, 0, none⟩) text.length text w4 (PartsAt.below P1.out B4.out) HC.out hlL (by omega) HN.out (TxtAt.below T1.out B4.out) (by omega)).mono ?_
          rintro e w5 ⟨a5, c5, R', hR', rfl, p5, b5⟩
          have er : R' = R := res_one hR' HRes.out
          subst er
          have P5 : Hid (PartsAt (fun _ => True) (fun _ => True) w5 a5 R') := p5
          have P6 : Hid (PartsAt (fun b => b = w3.heap.size) (fun b => w3.heap.size < b) w5 (some ⟨w3.heap.size, 0, none⟩) R') := PartsAt.below P4.out b5
          have B5 : Hid (Below w1.heap.size w1 w5) := B4.out.trans (b5.mono (by omega))
          clear p5 b5 hR'
          go_wp2_with fail
          refine (sameParts_same _ _ _ _ _ _ _ _ R' w5 P6.out P5.out hR5 (fun i p h => by have := HRT.out i p h; omega)).mono ?_
          rintro e w6 ⟨rfl, nq, hw6⟩
          have P7 : Hid (PartsAt (fun b => b = w3.heap.size) (fun b => w3.heap.size < b) w6 (some ⟨w3.heap.size, 0, none⟩) R') := by rw [hw6]; exact PartsAt.below P6.out ⟨rfl, rfl, rfl, Nat.le_refl _, fun _ _ => rfl⟩
          have B6 : Hid (Below w1.heap.size w1 w6) := by rw [hw6]; exact below_drewN B5.out nq
          clear hw6
          go_wp2_with fail
          refine (isCanonical_any _ _ _ _ R' w6 P7.out hR5).mono ?_
          rintro e w7 ⟨⟨r, rfl, hr⟩, hw7⟩
          subst hw7
          have hrt : r = true := hr.2 (res_canon HRes.out HC.out)
          subst hrt
          clear hr
          go_wp2_with fail
          go_ret
          exact ⟨rfl, B1.out.trans (B6.out.mono hsz0)⟩

set_option maxRecDepth 100000 in
set_option maxHeartbeats 4000000 in
theorem top3_none (G H : Nat → Prop) (a : Option Addr) (c : Nat) (L : List Pt) (ct : Nat) (w : World) (hp : PartsAt G H w a L) (hN : ∀ (i : Nat) (p : Pt), L[i]? = some p → p.2.1 ≤ 9223372036854775807)
    (hlen : L.length ≤ maxLen) (hTx : ∀ (i : Nat) (p : Pt), L[i]? = some p → p.2.2.length ≤ maxLen) :
    Calls Try.prog 3 #[.slice a L.length c, .slice none 0 ct] w fun e w' => e = .returned (.bool true) ∧ Below w.heap.size w w' := by
  have Hp : Hid (PartsAt G H w a L) := hp
  have HN : Hid (∀ (i : Nat) (p : Pt), L[i]? = some p → p.2.1 ≤ 9223372036854775807) := hN
  have HTx : Hid (∀ (i : Nat) (p : Pt), L[i]? = some p → p.2.2.length ≤ maxLen) := hTx
  have Hlen : Hid (L.length ≤ maxLen) := hlen
  clear hp hN hlen hTx
  have hnil := neqNil23
  go_enter Try.func3, Try.ntmps3
  go_wp2_with fail
  refine (zz8_any G H a none c 0 ct L _ Hp.out Hlen.out (Nat.zero_le _) HTx.out).mono ?_
  rintro e w' ⟨⟨r, rfl, hr⟩, hw'⟩
  subst hw'
  cases r with
  | false =>
    clear hr
    go_wp2_with fail
    go_ret
    exact ⟨rfl, Below.refl _ _⟩
  | true =>
    have hsz := hr rfl
    clear hr
    by_cases h4 : (4096 : Int) < L.length
    · go_wp2_with fail
      go_ret
      exact ⟨rfl, Below.refl _ _⟩
    · have hlL : L.length ≤ 4096 := by omega
      go_wp2_with fail
      refine (tooBig_any G H a c 0 L _ Hp.out hlL (by omega) (by omega)).mono ?_
      rintro e w' ⟨⟨r, rfl, _⟩, hw'⟩
      subst hw'
      cases r with
      | true =>
        go_wp2_with fail
        go_ret
        exact ⟨rfl, Below.refl _ _⟩
      | false =>
        go_wp2_with fail
        refine (isCanonical_any G H a c L _ Hp.out (by omega)).mono ?_
        rintro e w' ⟨⟨r, rfl, hr⟩, hw'⟩
        subst hw'
        cases r with
        | false =>
          clear hr
          go_wp2_with fail
          go_ret
          exact ⟨rfl, Below.refl _ _⟩
        | true =>
          have HC : Hid (Canon L) := hr.1 rfl
          obtain ⟨R, hR⟩ := res_exists L [] HC.out
          have HRes : Hid (Res L [] R) := hR
          clear hr hR
          have B1 : Hid (Below w.heap.size w w) := Below.refl _ _
          go_wp2_with fail
          have hsz2 := res_size HRes.out
          have hR5 : R.length ≤ 5000 := by simp only [List.length_nil] at hsz2; omega
          have hRT : ∀ (i : Nat) (p : Pt), R[i]? = some p → p.2.2.length ≤ 1048576 := fun i p h => by have := hsz2.2 i p h; simp only [List.length_nil] at this; omega
          have HRT : Hid (∀ (i : Nat) (p : Pt), R[i]? = some p → p.2.2.length ≤ 1048576) := hRT
          clear hRT hsz2
          have hsz0 : w.heap.size ≤ w.heap.size := B1.out.size
          have P1 : Hid (PartsAt G H w a L) := PartsAt.below Hp.out B1.out
          refine (buildOp_any G H a c L w P1.out hlL (by omega)).mono ?_
          rintro e w2 ⟨bo, rfl, st, b2⟩
          have ST : Hid (OpState w.heap.size L w2 bo) := st
          have B2 : Hid (Below w.heap.size w w2) := b2
          have hs2 := b2.size
          clear st b2
          go_wp2_with fail
          refine (zzInsert_any w.heap.size bo L none ct ([] : List Int) R w2 ST.out HC.out hlL (by omega) (fun i u h => by simp at h) (by simp) hs2 HRes.out).mono ?_
          rintro e w3 ⟨rfl, ⟨a3, c3, hcell, hparts⟩, b3⟩
          have P3 : Hid (PartsAt (fun _ => True) (fun _ => True) w3 a3 R) := hparts
          have B3 : Hid (Below w.heap.size w2 w3) := b3
          have hs3 := b3.size
          clear hparts b3
          go_wp2_with fail
          refine (readOp_any _ _ bo a3 c3 R w3 hcell P3.out hR5 HRT.out).mono ?_
          rintro e w4 ⟨rfl, p4, b4⟩
          have P4 : Hid (PartsAt (fun b => b = w3.heap.size) (fun b => w3.heap.size < b) w4 (some ⟨w3.heap.size, 0, none⟩) R) := p4
          have B4 : Hid (Below w.heap.size w w4) := (B2.out.trans B3.out).trans (b4.mono (by omega))
          have hs4 := b4.size
          clear p4 b4 hcell
          go_wp2_with fail
          refine (canon_any G H a c L none ct ([] : List Int) w4 (PartsAt.below P1.out B4.out) HC.out hlL (by omega) HN.out (show TxtAt (fun _ => True) w4 none [] from fun i u h => by simp at h) (by simp)).mono ?_
          rintro e w5 ⟨a5, c5, R', hR', rfl, p5, b5⟩
          have er : R' = R := res_one hR' HRes.out
          subst er
          have P5 : Hid (PartsAt (fun _ => True) (fun _ => True) w5 a5 R') := p5
          have P6 : Hid (PartsAt (fun b => b = w3.heap.size) (fun b => w3.heap.size < b) w5 (some ⟨w3.heap.size, 0, none⟩) R') := PartsAt.below P4.out b5
          have B5 : Hid (Below w.heap.size w w5) := B4.out.trans (b5.mono (by omega))
          clear p5 b5 hR'
          go_wp2_with fail
          refine (sameParts_same _ _ _ _ _ _ _ _ R' w5 P6.out P5.out hR5 (fun i p h => by have := HRT.out i p h; omega)).mono ?_
          rintro e w6 ⟨rfl, nq, hw6⟩
          have P7 : Hid (PartsAt (fun b => b = w3.heap.size) (fun b => w3.heap.size < b) w6 (some ⟨w3.heap.size, 0, none⟩) R') := by rw [hw6]; exact PartsAt.below P6.out ⟨rfl, rfl, rfl, Nat.le_refl _, fun _ _ => rfl⟩
          have B6 : Hid (Below w.heap.size w w6) := by rw [hw6]; exact below_drewN B5.out nq
          clear hw6
          go_wp2_with fail
          refine (isCanonical_any _ _ _ _ R' w6 P7.out hR5).mono ?_
          rintro e w7 ⟨⟨r, rfl, hr⟩, hw7⟩
          subst hw7
          have hrt : r = true := hr.2 (res_canon HRes.out HC.out)
          subst hrt
          clear hr
          go_wp2_with fail
          go_ret
          exact ⟨rfl, B1.out.trans (B6.out.mono hsz0)⟩
end Go.Proofs.Qxb6602551a

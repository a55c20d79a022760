/-
  THE WALKS of 'insert', one theorem a way: nothing stands ahead; a kept run; an insert; a delete.
-/
import Derived.Test.Qxb6602551aAddE
import Derived.RegionTactic
namespace Go.Proofs.Qxb6602551a
open Go.RowKit

/-- What an insert by 'add' leaves: the text's copy, then what 'add' made of it. -/
def InsAdded (t : List Int) (w : World) (R : Nat → Nat → World → World → Prop) (e : Ending) (w' : World) : Prop :=
  e = .returned (.tuple #[]) ∧ ∃ g tc w1, w.heap.size ≤ g ∧ TxtAt (fun b => b = g) w1 (some ⟨g, 0, none⟩) t ∧ Below w.heap.size w w1 ∧ R g tc w1 w'

set_option maxHeartbeats 1000000 in
/-- Nothing stands ahead. -/
theorem ins_none (G : Nat → Prop) (bo : Nat) (a : Option Addr) (cap : Nat) (ad : Addr) (c : Nat) (t : List Int) (w : World) (R : Nat → Nat → World → World → Prop) (ho : w.cell? ⟨bo, 0, none⟩ = some (.slice a 0 cap))
    (ht : TxtAt G w (some ad) t) (h0 : t ≠ []) (hl : t.length ≤ 2000000)
    (hadd : ∀ g tc w1, w.heap.size ≤ g → TxtAt (fun b => b = g) w1 (some ⟨g, 0, none⟩) t → Below w.heap.size w w1 →
      Calls Try.prog 44 #[.pointer (some ⟨bo, 0, none⟩), .agg #[.int .i64 2, .int .i64 0, .slice (some ⟨g, 0, none⟩) t.length tc]] w1 fun e w' => e = .returned (.tuple #[]) ∧ R g tc w1 w') :
    Calls Try.prog 27 #[.pointer (some ⟨bo, 0, none⟩), .slice (some ad) t.length c] w fun e w' => InsAdded t w R e w' := by
  have hp : 0 < t.length := List.length_pos_iff.2 h0
  have hx : ((t.length : Int) == 0) = false := by simp; omega
  have Ht : Hid (TxtAt G w (some ad) t) := ht
  have Ha : Hid _ := hadd
  clear ht hadd
  go_enter Try.func27, Try.ntmps27
  go_wp2_with (first | (go_at_call 43; refine (last_none bo a cap _ ho).mono ?_; rintro e w' ⟨rfl, rfl⟩) | (go_at_call 45; refine (sclone_any G ad c t _ Ht.out h0 hl).mono ?_; rintro e w1 ⟨g, tc, rfl, hg, t1, b1⟩))
  refine Calls.mono (Ha.out g tc w1 hg t1 b1) ?_
  rintro e w2 ⟨rfl, hr⟩
  have HR : Hid _ := hr
  have T1 : Hid (TxtAt (fun b => b = g) w1 (some ⟨g, 0, none⟩) t) := t1
  have B1 : Hid (Below w.heap.size w w1) := b1
  clear hr t1 b1
  go_wp2_with fail
  go_end0
  exact ⟨rfl, g, tc, w1, hg, T1.out, B1.out, HR.out⟩

set_option maxHeartbeats 1000000 in
/-- A kept run stands ahead. -/
theorem ins_retain (G : Nat → Prop) (bo ba m cap : Nat) (ad : Addr) (c : Nat) (t : List Int) (w : World) (R : Nat → Nat → World → World → Prop) (ho : w.cell? ⟨bo, 0, none⟩ = some (.slice (some ⟨ba, 0, none⟩) (m + 1) cap))
    (hk : w.cell? ⟨ba, m * 3, none⟩ = some (.int .i64 0)) (hm : m ≤ 100000) (ht : TxtAt G w (some ad) t) (h0 : t ≠ []) (hl : t.length ≤ 2000000)
    (hadd : ∀ g tc w1, w.heap.size ≤ g → TxtAt (fun b => b = g) w1 (some ⟨g, 0, none⟩) t → Below w.heap.size w w1 →
      Calls Try.prog 44 #[.pointer (some ⟨bo, 0, none⟩), .agg #[.int .i64 2, .int .i64 0, .slice (some ⟨g, 0, none⟩) t.length tc]] w1 fun e w' => e = .returned (.tuple #[]) ∧ R g tc w1 w') :
    Calls Try.prog 27 #[.pointer (some ⟨bo, 0, none⟩), .slice (some ad) t.length c] w fun e w' => InsAdded t w R e w' := by
  have hp : 0 < t.length := List.length_pos_iff.2 h0
  have hx : ((t.length : Int) == 0) = false := by simp; omega
  have Ht : Hid (TxtAt G w (some ad) t) := ht
  have Ha : Hid _ := hadd
  clear ht hadd
  go_enter Try.func27, Try.ntmps27
  go_wp2_with fail
  refine (last_some bo ba m cap _ ho hm).mono ?_
  rintro e w0 ⟨rfl, d0⟩
  rw [← d0.cell] at hk
  have D0 : Hid (Drawn' w w0) := d0
  clear d0 ho
  go_wp2_with fail
  refine (sclone_any G ad c t _ (by exact TxtAt.below Ht.out (D0.out.below _)) h0 hl).mono ?_
  rintro e w1 ⟨g, tc, rfl, hg, t1, b1⟩
  have T1 : Hid (TxtAt (fun b => b = g) w1 (some ⟨g, 0, none⟩) t) := t1
  have hh : w0.heap.size = w.heap.size := by rw [D0.out.heap]
  have B1 : Hid (Below w.heap.size w w1) := (D0.out.below _).trans (b1.mono (by omega))
  rw [hh] at hg
  clear hk t1 b1 hh
  go_wp2_with fail
  refine Calls.mono (Ha.out g tc w1 hg T1.out B1.out) ?_
  rintro e w2 ⟨rfl, hr⟩
  have HR : Hid _ := hr
  clear hr
  go_wp2_with fail
  go_end0
  exact ⟨rfl, g, tc, w1, hg, T1.out, B1.out, HR.out⟩

/-- What an insert onto an insert leaves: the part's text is a new one. -/
def InsJoined (bo ba m cap N : Nat) (F : Nat → Value) (t0 t : List Int) (w : World) (e : Ending) (w' : World) : Prop :=
  e = .returned (.tuple #[]) ∧ ∃ g tc, w.heap.size ≤ g ∧ w'.heap[bo]? = some (.cells #[.slice (some ⟨ba, 0, none⟩) (m + 1) cap] 76 (0, 0)) ∧
    w'.rowIs ba 60 N (fun j => if j = m * 3 + 2 then .slice (some ⟨g, 0, none⟩) (t0.length + t.length) tc else F j) ∧ TxtAt (fun b => b = g) w' (some ⟨g, 0, none⟩) (t0 ++ t) ∧ Only (fun b => b = ba) w w'

set_option maxHeartbeats 1000000 in
theorem ins_insert (G G0 : Nat → Prop) (bo ba m cap N : Nat) (F : Nat → Value) (ta : Option Addr) (t0 : List Int) (ad : Addr) (c : Nat) (t : List Int) (w : World) (ho : w.heap[bo]? = some (.cells #[.slice (some ⟨ba, 0, none⟩) (m + 1) cap] 76 (0, 0)))
    (hr : w.rowIs ba 60 N F) (hN : m * 3 + 3 ≤ N) (hk : F (m * 3) = .int .i64 2) (ht0 : F (m * 3 + 2) = .slice ta t0.length t0.length) (tx0 : TxtAt G0 w ta t0) (hne : ba ≠ bo)
    (hm : m ≤ 100000) (ht : TxtAt G w (some ad) t) (h0 : t ≠ []) (hl : t.length ≤ 2000000) (hl0 : t0.length ≤ 2000000) :
    Calls Try.prog 27 #[.pointer (some ⟨bo, 0, none⟩), .slice (some ad) t.length c] w fun e w' => InsJoined bo ba m cap N F t0 t w e w' := by
  have hp : 0 < t.length := List.length_pos_iff.2 h0
  have hx : ((t.length : Int) == 0) = false := by simp; omega
  obtain ⟨i5, hi, hz, hs, hby⟩ := info5'
  have c0 : w.cell? ⟨ba, m * 3, none⟩ = some (.int .i64 2) := by rw [hr.cell (by omega), hk]
  have c2 : w.cell? ⟨ba, m * 3 + 2, none⟩ = some (.slice ta t0.length t0.length) := by rw [hr.cell (by omega), ht0]
  have hlt := hr.lt
  have Ht : Hid (TxtAt G w (some ad) t) := ht
  have Ht0 : Hid (TxtAt G0 w ta t0) := tx0
  have Ho : Hid (w.heap[bo]? = some (.cells #[.slice (some ⟨ba, 0, none⟩) (m + 1) cap] 76 (0, 0))) := ho
  have Hr : Hid (w.rowIs ba 60 N F) := hr
  have hco := (opCell ho).1
  clear ht tx0 ho hr hk ht0
  go_enter Try.func27, Try.ntmps27
  go_wp2_with fail
  refine (last_some bo ba m cap _ hco hm).mono ?_
  rintro e w0 ⟨rfl, d0⟩
  rw [← d0.cell] at c0 c2
  have D0 : Hid (Drawn' w w0) := d0
  clear d0 hco
  have nn : ta = none → t0.length = 0 ∧ t0.length = 0 := by
    intro h
    subst h
    cases t0 with
    | nil => exact ⟨rfl, rfl⟩
    | cons x r => obtain ⟨b, off, h, _⟩ := Ht0.out 0 x rfl; cases h
  have NN : Hid _ := nn
  have ols : ∀ b, ta = some b → ∀ (j : Nat) (u : Value), (bytes t0)[j]? = some u → w0.cell? (b.add j) = some u := by
    intro b h
    have hx := Ht0.out
    rw [h] at hx
    exact TxtAt.news (TxtAt.below hx (D0.out.below _))
  have OLS : Hid _ := ols
  have nws : ∀ (j : Nat) (u : Value), (bytes t)[j]? = some u → w0.cell? (ad.add j) = some u := TxtAt.news (TxtAt.below Ht.out (D0.out.below _))
  have NWS : Hid _ := nws
  have r0 : w0.rowIs ba 60 N F := World.rowIs.of_block Hr.out (by rw [D0.out.heap])
  have f2 := r0.frozen (m * 3 + 2)
  have hlt0 : ba < w0.heap.size := r0.lt
  have R0 : Hid (w0.rowIs ba 60 N F) := r0
  clear nn ols nws r0
  go_wp2_with (at_builtin; refine wpList_append_grows _ rfl (.tmp 56) (.tmp 57) 23 rfl 5 i5 (.int .u8 0) 1 1 Try.underlying23 hi hz hs hby rfl (by decide) ta t0.length t0.length (bytes t0) rfl NN.out (by rw [bytes_length, Nat.mul_one]) OLS.out ad t.length c (bytes t) rfl (by rw [bytes_length, Nat.mul_one]) NWS.out (bytes_one t) (by omega) (by simp only [maxLen]; omega) (by omega) ?_)
  intro v' w1 hown hgr
  have eb : bytes t0 ++ bytes t = bytes (t0 ++ t) := by simp [bytes]
  have el : t0.length + t.length = (t0 ++ t).length := by simp
  rw [eb, el] at hown
  obtain ⟨g, tc, hv, hg, hgl, htx⟩ := txt_of_owns hown (by simp [h0])
  subst hv
  have hgr' : ∀ k, k < w0.heap.size → w1.heap[k]? = w0.heap[k]? := fun k hk => hgr.block k hk (fun h => by cases h)
  have y2 : w1.cell? ⟨ba, m * 3 + 2, none⟩ = some (.slice ta t0.length t0.length) := (World.cell?_of_block (w := w0) (hgr' ba hlt0)).trans c2
  have z2 : w1.frozen? ⟨ba, m * 3 + 2, none⟩ = false := (World.frozen?_of_block (w := w0) (hgr' ba hlt0)).trans f2
  have HG : Hid (w0.grownBy w1 none) := hgr
  have HTX : Hid (TxtAt (fun b => b = g) w1 (some ⟨g, 0, none⟩) (t0 ++ t)) := htx
  have HG' : Hid (∀ k, k < w0.heap.size → w1.heap[k]? = w0.heap[k]?) := hgr'
  clear hgr hgr' htx hown hi hz hs hby c0 c2 f2
  rw [← el]
  clear el eb
  go_wp2_with fail
  go_end0
  have hsz : w0.heap.size = w.heap.size := by rw [D0.out.heap]
  have hbo : bo < w.heap.size := (Array.getElem?_eq_some_iff.1 Ho.out).1
  have r1 : w1.rowIs ba 60 N F := World.rowIs.of_block R0.out (HG'.out ba hlt0)
  have o1 : Only (fun b => b = ba) w w1 := ⟨HG.out.os.trans (D0.out.below 0).os, HG.out.tape.trans (D0.out.below 0).tape, HG.out.output.trans (D0.out.below 0).output, by have := HG.out.size; omega, fun k hk _ => by rw [HG'.out k (by omega), D0.out.heap]⟩
  refine ⟨rfl, g, tc, by omega, ?_, r1.set (m * 3 + 2) _, ?_, o1.setCell (p := ⟨ba, m * 3 + 2, none⟩) (fun _ => rfl) _⟩
  · rw [Below.heap_setCell _ _ _ _ (Ne.symm hne), HG'.out bo (by omega), D0.out.heap]; exact Ho.out
  · exact TxtAt.carry HTX.out (fun _ h => h) (fun b hb hl => Below.heap_setCell _ _ _ _ (by show b ≠ ba; omega))

/-- The operation's last part has been taken off. -/
structure CutOff (bo ba m cap N : Nat) (F : Nat → Value) (w W : World) : Prop where
  op : W.heap[bo]? = some (.cells #[.slice (some ⟨ba, 0, none⟩) m cap] 76 (0, 0))
  row : W.rowIs ba 60 N F
  only : Only (fun b => b = bo) w W

def InsDeleted (bo ba m cap N : Nat) (F : Nat → Value) (w : World) (R1 R2 : World → World → Prop) (e : Ending) (w' : World) : Prop :=
  e = .returned (.tuple #[]) ∧ ∃ W w1, CutOff bo ba m cap N F w W ∧ R1 W w1 ∧ R2 w1 w'

set_option maxHeartbeats 1000000 in
theorem ins_delete (bo ba m cap N : Nat) (F : Nat → Value) (nd : Int) (td : Option Addr) (dl dc : Nat) (ad : Addr) (l c : Nat) (w : World) (R1 R2 : World → World → Prop) (ho : w.heap[bo]? = some (.cells #[.slice (some ⟨ba, 0, none⟩) (m + 1) cap] 76 (0, 0)))
    (hr : w.rowIs ba 60 N F) (hN : m * 3 + 3 ≤ N) (hcap : m + 1 ≤ cap) (hk : F (m * 3) = .int .i64 1) (hk1 : F (m * 3 + 1) = .int .i64 nd) (hk2 : F (m * 3 + 2) = .slice td dl dc) (hne : ba ≠ bo)
    (hm : m ≤ 100000) (hl : 0 < l) (hl2 : l ≤ 2000000)
    (hins : ∀ W, CutOff bo ba m cap N F w W → Calls Try.prog 27 #[.pointer (some ⟨bo, 0, none⟩), .slice (some ad) l c] W fun e w1 => e = .returned (.tuple #[]) ∧ R1 W w1)
    (hR1 : ∀ W w1, CutOff bo ba m cap N F w W → R1 W w1 → Only (fun b => b = bo ∨ b = ba) W w1)
    (hadd : ∀ W w1, CutOff bo ba m cap N F w W → R1 W w1 → Calls Try.prog 44 #[.pointer (some ⟨bo, 0, none⟩), .agg #[.int .i64 1, .int .i64 nd, .slice td dl dc]] w1 fun e w2 => e = .returned (.tuple #[]) ∧ R2 w1 w2) :
    Calls Try.prog 27 #[.pointer (some ⟨bo, 0, none⟩), .slice (some ad) l c] w fun e w' => InsDeleted bo ba m cap N F w R1 R2 e w' := by
  have hx : ((l : Int) == 0) = false := by simp; omega
  have c0 : w.cell? ⟨ba, m * 3, none⟩ = some (.int .i64 1) := by rw [hr.cell (by omega), hk]
  have c1 : w.cell? ⟨ba, m * 3 + 1, none⟩ = some (.int .i64 nd) := by rw [hr.cell (by omega), hk1]
  have c2 : w.cell? ⟨ba, m * 3 + 2, none⟩ = some (.slice td dl dc) := by rw [hr.cell (by omega), hk2]
  have hlt := hr.lt
  have hbo : bo < w.heap.size := (Array.getElem?_eq_some_iff.1 ho).1
  obtain ⟨co, fo⟩ := opCell ho
  have Ho : Hid (w.heap[bo]? = some (.cells #[.slice (some ⟨ba, 0, none⟩) (m + 1) cap] 76 (0, 0))) := ho
  have Hr : Hid (w.rowIs ba 60 N F) := hr
  have HI : Hid _ := hins
  have HR : Hid _ := hR1
  have HA : Hid _ := hadd
  clear ho hr hk hk1 hk2 hins hR1 hadd
  go_enter Try.func27, Try.ntmps27
  go_wp2_with fail
  refine (last_some bo ba m cap _ co hm).mono ?_
  rintro e w0 ⟨rfl, d0⟩
  rw [← d0.cell] at c0 c1 c2 co
  have fo0 : w0.frozen? ⟨bo, 0, none⟩ = false := by rw [(d0.below w.heap.size).frozen hbo]; exact fo
  have hbo0 : bo < w0.heap.size := by rw [d0.heap]; exact hbo
  have D0 : Hid (Drawn' w w0) := d0
  clear d0 fo
  go_wp2_with fail
  have mk : ∀ W : World, W.heap = ((w0.setCell ⟨bo, 0, none⟩ (.slice (some ⟨ba, 0, none⟩) m cap)).alloc (.cells #[.int .i64 1, .int .i64 nd, .slice td dl dc] 60)).heap → W.os = w0.os → W.tape = w0.tape → W.output = w0.output →
      CutOff bo ba m cap N F w W ∧ W.heap[w0.heap.size]? = some (.cells #[.int .i64 1, .int .i64 nd, .slice td dl dc] 60 (0, 0)) := by
    intro W e1 e2 e3 e4
    have h1 : w0.heap[bo]? = some (.cells #[.slice (some ⟨ba, 0, none⟩) (m + 1) cap] 76 (0, 0)) := by rw [D0.out.heap]; exact Ho.out
    have o1 : Only (fun b => b = bo) w w0 := ⟨(D0.out.below 0).os, (D0.out.below 0).tape, (D0.out.below 0).output, (D0.out.below 0).size, fun k hk _ => by rw [D0.out.heap]⟩
    refine ⟨⟨?_, ?_, ((o1.setCell (p := ⟨bo, 0, none⟩) (fun _ => rfl) _).alloc _).of_heap e1 e2 e3 e4⟩, ?_⟩
    · rw [e1, Below.heap_alloc _ _ _ (by simpa using hbo0)]; exact op_set h1
    · have r0 : w0.rowIs ba 60 N F := World.rowIs.of_block Hr.out (by rw [D0.out.heap])
      exact ((r0.setOther (a := ⟨bo, 0, none⟩) hne _).alloc _).of_block (by rw [e1])
    · rw [e1]
      have := Deep.blk_alloc_new (w0.setCell ⟨bo, 0, none⟩ (.slice (some ⟨ba, 0, none⟩) m cap)) (.cells #[.int .i64 1, .int .i64 nd, .slice td dl dc] 60)
      simpa using this
  have MK : Hid _ := mk
  clear mk c0 c1 c2
  have hmc : (m : Int) ≤ (cap : Int) := by omega
  go_cut [] (fun wc => CutOff bo ba m cap N F w wc ∧ wc.heap[w0.heap.size]? = some (.cells #[.int .i64 1, .int .i64 nd, .slice td dl dc] 60 (0, 0)))
  case first =>
    go_region
    all_goals (
      go_wp2_with fail
      go_meet
      exact MK.out _ rfl rfl rfl rfl)
  case rest =>
    obtain ⟨hcut1, hbd⟩ := hcut
    have HC : Hid (CutOff bo ba m cap N F w wc) := hcut1
    have HBD : Hid (wc.heap[w0.heap.size]? = some (.cells #[.int .i64 1, .int .i64 nd, .slice td dl dc] 60 (0, 0))) := hbd
    clear hcut1 hbd co fo0 MK
    go_wp2_with fail
    refine Calls.mono (HI.out wc HC.out) ?_
    rintro e w1 ⟨rfl, hr1⟩
    have o1 := HR.out wc w1 HC.out hr1
    have hlt0 : ba < w0.heap.size := by rw [D0.out.heap]; exact hlt
    have hb1 : w1.heap[w0.heap.size]? = some (.cells #[.int .i64 1, .int .i64 nd, .slice td dl dc] 60 (0, 0)) := by
      rw [o1.block _ (Array.getElem?_eq_some_iff.1 HBD.out).1 (by omega)]; exact HBD.out
    have x0 : w1.cell? ⟨w0.heap.size, 0, none⟩ = some (.int .i64 1) := by simp [World.cell?, hb1]
    have x1 : w1.cell? ⟨w0.heap.size, 1, none⟩ = some (.int .i64 nd) := by simp [World.cell?, hb1]
    have x2 : w1.cell? ⟨w0.heap.size, 2, none⟩ = some (.slice td dl dc) := by simp [World.cell?, hb1]
    have HR1 : Hid (R1 wc w1) := hr1
    clear hr1 o1 hb1
    go_wp2_with fail
    refine Calls.mono (HA.out wc w1 HC.out HR1.out) ?_
    rintro e w2 ⟨rfl, hr2⟩
    have HR2 : Hid (R2 w1 w2) := hr2
    clear hr2
    go_wp2_with fail
    go_end0
    exact ⟨rfl, wc, w1, HC.out, HR1.out, HR2.out⟩
end Go.Proofs.Qxb6602551a

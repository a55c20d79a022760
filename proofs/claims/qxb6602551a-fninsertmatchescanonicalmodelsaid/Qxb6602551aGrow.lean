/-
  THE WALKS of the small functions under 'insert': last, slices.Grow, slices.Clone.
-/
import Derived.Test.Qxb6602551aReadOp
import Derived.Deep.RegionLaw
import Derived.Deep.RegionLawGrows
import Derived.Lib.AppendZerosOnto
import Derived.Deep.RegionHeldLaw
namespace Go.Proofs.Qxb6602551a
open Go.RowKit

set_option maxHeartbeats 400000 in
theorem last_none (bo : Nat) (a : Option Addr) (c : Nat) (w : World) (h : w.cell? ⟨bo, 0, none⟩ = some (.slice a 0 c)) :
    Calls Try.prog 43 #[.pointer (some ⟨bo, 0, none⟩)] w fun e w' => e = .returned (.pointer none) ∧ w = w' := by
  go_enter Try.func43, Try.ntmps43
  go_wp2
  go_ret
  exact ⟨rfl, rfl⟩

set_option maxHeartbeats 400000 in
theorem last_some (bo ba m c : Nat) (w : World) (h : w.cell? ⟨bo, 0, none⟩ = some (.slice (some ⟨ba, 0, none⟩) (m + 1) c)) (hm : m ≤ 100000) :
    Calls Try.prog 43 #[.pointer (some ⟨bo, 0, none⟩)] w fun e w' => e = .returned (.pointer (some ⟨ba, m * 3, none⟩)) ∧ Drawn' w w' := by
  have h0 : (((m + 1 : Nat) : Int) == 0) = false := by simp; omega
  go_enter Try.func43, Try.ntmps43
  go_wp2
  go_quiet (fail)
  go_wp2
  go_ret
  exact ⟨rfl, _, rfl⟩

set_option maxHeartbeats 400000 in
theorem grow_zero (a : Option Addr) (w : World) :
    Calls Try.prog 47 #[.slice a 0 0, .int .i64 0] w fun e w' => e = .returned (.slice a 0 0) ∧ w = w' := by
  go_enter Try.func47, Try.ntmps47
  go_wp2
  go_ret
  exact ⟨rfl, rfl⟩


theorem info60' : ∃ i, Try.prog.info? 60 = some i ∧ i.zero = some (.agg #[.int .i64 0, .int .i64 0, .slice none 0 0]) ∧ i.size = 3 ∧ i.bytes = 40 := by
  obtain ⟨i, hi, hzz⟩ := Option.map_eq_some_iff.1 info60
  simp only [Prod.mk.injEq] at hzz
  exact ⟨i, hi, hzz.1, hzz.2.1, hzz.2.2⟩

/-- 'append(s[:cap(s)], make([]part, n)...)' at a full array of n parts: a new array, the old cells first. -/
theorem run_growZeros (ty ba n : Nat) (F : Nat → Value) (w : World) (hr : w.rowIs ba 60 (n * 3) F) (hn : 0 < n) (hb : n ≤ 10000) :
    ∃ (cap : Nat) (cs : Array Value), (Builtin.append_ #[57, 3] ty #[.slice (some ⟨ba, 0, none⟩) n n, .int .i64 n]).run Try.prog w = .ok (.slice (some ⟨w.heap.size, 0, none⟩) (n + n) cap) (w.drew.alloc (.cells cs 60)) ∧
      n + n ≤ cap ∧ cs.size = cap * 3 ∧ ∀ j, j < n * 3 → cs[j]? = some (F j) := by
  obtain ⟨i, hi, hz, hs, hby⟩ := info60'
  have hf : (Builtin.firstCells i.size n (.slice (some ⟨ba, 0, none⟩) n n)).run Try.prog w.drew = .ok ((List.range (n * 3)).map F).toArray w.drew := by
    refine run_firstCells_some (P := Try.prog) w.drew i.size n ⟨ba, 0, none⟩ n n _ (by simp [hs]) (fun j u hu => ?_)
    have hj : j < n * 3 := by have := (List.getElem?_eq_some_iff.1 hu).1; simpa using this
    simp [hj] at hu
    subst hu
    have hadd : (⟨ba, 0, none⟩ : Addr).add j = ⟨ba, j, none⟩ := by unfold Addr.add; split <;> simp_all
    rw [hadd]
    exact hr.cell hj
  have hge := grownCap_ge w (n + n) n 60
  refine ⟨_, _, Lib.run_append_grow_zeros w 57 3 ty 60 i _ .i64 .i64 Try.underlying57 Try.underlying3 hi hz (some ⟨ba, 0, none⟩) n n _ hf n hn (by omega) (by omega) (by omega) (by rw [hby]; omega) (growslice_fits (by omega) (by rw [hby]; omega)), hge, ?_, ?_⟩
  · simp [size_zeroCells, Value.cells]
    omega
  · intro j hj
    rw [Array.append_assoc, Array.getElem?_append_left (by simpa using hj)]
    simp [hj]

set_option maxHeartbeats 400000 in
theorem grow_full (ba n : Nat) (F : Nat → Value) (w : World) (hr : w.rowIs ba 60 (n * 3) F) (hn : 0 < n) (hb : n ≤ 10000) :
    Calls Try.prog 47 #[.slice (some ⟨ba, 0, none⟩) n n, .int .i64 n] w fun e w' => ∃ cap F', e = .returned (.slice (some ⟨w.heap.size, 0, none⟩) n cap) ∧ n < cap ∧ w'.rowIs w.heap.size 60 (cap * 3) F' ∧ (∀ j, j < n * 3 → F' j = F j) ∧ Below w.heap.size w w' := by
  have hrun := fun ty => run_growZeros ty ba n F w hr hn hb
  have Hrun : Hid _ := hrun
  clear hrun hr
  have hn' : (0 : Int) < n := by omega
  obtain ⟨cap, cs, hr, hcap, hcs, hF⟩ := Hrun.out 57
  have HF : Hid (∀ j, j < n * 3 → cs[j]? = some (F j)) := hF
  have HC : Hid (cs.size = cap * 3) := hcs
  have HR : Hid _ := hr
  clear hF hcs hr
  go_enter Try.func47, Try.ntmps47
  go_wp2_with (at_builtin; refine Lib.wpList_append_run _ rfl _ _ _ _ rfl _ _ rfl rfl _ _ HR.out ?_)
  go_ret
  refine ⟨cap, fun j => cs.getD j undef, rfl, by omega, ⟨cs, Deep.blk_alloc_new _ _, HC.out, fun j hj => ?_⟩, fun j hj => ?_, ((Below.refl _ w).alloc (Nat.le_refl _) _).drew⟩
  · have : j < cs.size := by rw [HC.out]; exact hj
    simp [Array.getD, this]
  · have h1 := HF.out j hj
    obtain ⟨h2, h3⟩ := Array.getElem?_eq_some_iff.1 h1
    simp [Array.getD, h2, h3]

/-! ### slices.Clone -/
theorem info5' : ∃ i, Try.prog.info? 5 = some i ∧ i.zero = some (.int .u8 0) ∧ i.size = 1 ∧ i.bytes = 1 := by
  obtain ⟨i, hi, hzz⟩ := Option.map_eq_some_iff.1 infoB5
  simp only [Prod.mk.injEq] at hzz
  exact ⟨i, hi, hzz.1, hzz.2.1, hzz.2.2⟩

/-- The cells of a text. -/
def bytes (t : List Int) : List Value := t.map (Value.int .u8)
theorem bytes_length (t : List Int) : (bytes t).length = t.length := by simp [bytes]
theorem bytes_one (t : List Int) : ∀ u ∈ bytes t, u.oneCell' = true := by
  intro u hu
  simp [bytes] at hu
  obtain ⟨x, _, rfl⟩ := hu
  rfl
theorem TxtAt.news {G : Nat → Prop} {w : World} {ad : Addr} {t : List Int} (h : TxtAt G w (some ad) t) : ∀ (j : Nat) (u : Value), (bytes t)[j]? = some u → w.cell? (ad.add j) = some u := by
  intro j u hu
  simp [bytes] at hu
  obtain ⟨x, hx, rfl⟩ := hu
  obtain ⟨b, off, hab, _, hc⟩ := h j x hx
  injection hab with hab
  subst hab
  rw [Addr.add_lit]
  exact hc

/-- A row that a call owns and that holds a text. -/
theorem txt_of_owns {w : World} {base : Nat} {v : Value} {t : List Int} (h : w.ownsRow base 5 1 v t.length (bytes t)) (h0 : t ≠ []) :
    ∃ g cap, v = .slice (some ⟨g, 0, none⟩) t.length cap ∧ base ≤ g ∧ g < w.heap.size ∧ TxtAt (fun b => b = g) w (some ⟨g, 0, none⟩) t := by
  have hl : 0 < t.length := List.length_pos_iff.2 h0
  rcases h.2 with ⟨_, h1⟩ | ⟨g, cap, cur, hv, hb, hg, _⟩
  · omega
  · refine ⟨g, cap, hv, hb, (Array.getElem?_eq_some_iff.1 hg).1, fun i u hu => ⟨g, 0, rfl, rfl, ?_⟩⟩
    subst hv
    have := h.cells (g := g) rfl i (.int .u8 u) (by simp [bytes, hu])
    rwa [Addr.add_lit] at this

def SCloned (t : List Int) (w : World) (e : Ending) (w' : World) : Prop :=
  ∃ g cap, e = .returned (.slice (some ⟨g, 0, none⟩) t.length cap) ∧ w.heap.size ≤ g ∧ TxtAt (fun b => b = g) w' (some ⟨g, 0, none⟩) t ∧ Below w.heap.size w w'

set_option maxHeartbeats 400000 in
theorem sclone_any (G : Nat → Prop) (ad : Addr) (c : Nat) (t : List Int) (w : World) (ht : TxtAt G w (some ad) t) (h0 : t ≠ []) (hl : t.length ≤ 2000000) :
    Calls Try.prog 45 #[.slice (some ad) t.length c] w fun e w' => SCloned t w e w' := by
  have hnil := eqlNil23
  have Ht : Hid (TxtAt G w (some ad) t) := ht
  clear ht
  obtain ⟨i5, hi, hz, hs, hby⟩ := info5'
  go_enter Try.func45, Try.ntmps45
  go_wp2_with (at_builtin; refine wpList_append_grows _ rfl (.tmp 5) (.tmp 6) 23 rfl 5 i5 (.int .u8 0) 1 1 Try.underlying23 hi hz hs hby rfl (by decide) (some ⟨w.heap.size, 0, none⟩) 0 0 [] rfl (fun h => by cases h) rfl (fun b _ j u h => by simp at h) ad t.length c (bytes t) rfl ?_ ?_ (bytes_one t) ?_ ?_ ?_ ?_)
  · simp [bytes]
  · intro j u hu
    have := TxtAt.news (TxtAt.below Ht.out ((Below.refl _ w).alloc (Nat.le_refl _) (.cells #[] 5))) j u hu
    exact this
  · have := List.length_pos_iff.2 h0; omega
  · simp only [maxLen]; omega
  · omega
  · intro v' w' hown hgr
    obtain ⟨g, cap, rfl, hg, hlt, htx⟩ := txt_of_owns hown h0
    have HG : Hid _ := hgr
    have HT : Hid _ := htx
    clear hgr htx hown hi hz hs hby hnil
    go_wp2_with fail
    go_ret
    refine ⟨g, cap, rfl, by omega, HT.out, ?_⟩
    exact ((Below.refl _ w).alloc (Nat.le_refl _) _).grown HG.out (by simp) (fun k h => by cases h)
end Go.Proofs.Qxb6602551a

/-
  WHAT THE TWO MERGE LAWS SHARE: the rows that they fill, what stands behind their calls of 'buildTree' and 'merge'.
-/
import Derived.Test.Qxb6602551aOrder
namespace Go.Proofs.Qxb6602551a
open Go.RowKit

theorem Try.info3 : (Try.prog.info? 3).map (fun i => (i.zero, i.size, i.bytes)) = some (some (.int .i64 0), 1, 8) := by kernel_rfl
theorem Try.info39 : (Try.prog.info? 39).map (fun i => (i.zero, i.size, i.bytes)) = some (some (.int .u64 0), 1, 8) := by kernel_rfl
theorem Try.info43 : (Try.prog.info? 43).map (fun i => (i.zero, i.size, i.bytes)) = some (some (.pointer none), 1, 8) := by kernel_rfl


def fill (k : IntKind) (N : Nat → Int) (i j : Nat) : Value := .int k (if j < i then N j else 0)

theorem fill_step {w : World} {b t n i : Nat} {k : IntKind} {N : Nat → Int} (h : w.rowIs b t n (fill k N i)) : (w.setCell ⟨b, i, none⟩ (.int k (N i))).rowIs b t n (fill k N (i + 1)) := by
  refine (h.set i _).congr (fun j _ => ?_)
  by_cases e : j = i
  · subst e; simp [fill]
  · rw [if_neg e]; simp only [fill]; congr 1
    by_cases e' : j < i
    · rw [if_pos e', if_pos (by omega)]
    · rw [if_neg e', if_neg (by omega)]


/-- Behind the two calls of 'buildTree': two trees of neighbouring intervals, one list of their nodes. -/
theorem both_built {N S P : Nat → Int} {bn bs bp bd n l0 : Nat} {w w1 w2 : World} {p q : Option Addr} {g g' : Nat → Nat} {D : Nat → Value} (hg : Given N S P bn bs bp bd n w) (hbd : bd < w.heap.size)
    (hb1 : Built N S P bd n 0 l0 D w w1 p g) (hb2 : Built N S P bd n l0 n (fun i => if 0 ≤ i ∧ i < l0 then nodeAt g i else D i) w1 w2 q g') :
    ∃ blk, T N P blk (fun lo m hi => m = top S lo (hi - lo - 1)) l0 w2 p 0 l0 ∧ T N P blk (fun lo m hi => m = top S lo (hi - lo - 1)) (n - l0) w2 q l0 n ∧
      (∀ i j, 0 ≤ i → i < n → 0 ≤ j → j < n → blk i = blk j → i = j) ∧ (∀ i, i < n → w.heap.size ≤ blk i ∧ blk i < w2.heap.size) ∧
      w2.rowIs bd 43 n (nodeAt blk) ∧ Given N S P bn bs bp bd n w2 ∧ Only (fun k => k = bd) w w2 := by
  obtain ⟨blk, hblk⟩ : ∃ blk : Nat → Nat, ∀ i, blk i = if i < l0 then g i else g' i := ⟨_, fun _ => rfl⟩
  have b1 : ∀ i, i < l0 → blk i = g i := fun i hi => by rw [hblk, if_pos hi]
  have b2 : ∀ i, l0 ≤ i → blk i = g' i := fun i hi => by rw [hblk, if_neg (by omega)]
  have s0 := hb1.only.size
  have s1 := hb2.only.size
  refine ⟨blk, ?_, ?_, ?_, ?_, ?_, (hg.only hb1.only).only hb2.only, hb1.only.trans hb2.only⟩
  · refine T.blk (hb1.tree.only hb2.only (fun i x1 x2 y => ?_)) (fun i _ hi => b1 i hi)
    have := hb1.fresh i x1 x2; omega
  · exact T.blk hb2.tree (fun i hi _ => b2 i hi)
  · intro i j _ x _ y he
    by_cases c : i < l0
    · have f1 := hb1.fresh i (Nat.zero_le _) c
      rw [b1 i c] at he
      by_cases d : j < l0
      · rw [b1 j d] at he; exact hb1.inj i j (Nat.zero_le _) c (Nat.zero_le _) d he
      · rw [b2 j (by omega)] at he; have := hb2.fresh j (by omega) y; omega
    · have f1 := hb2.fresh i (by omega) x
      rw [b2 i (by omega)] at he
      by_cases d : j < l0
      · rw [b1 j d] at he; have := hb1.fresh j (Nat.zero_le _) d; omega
      · rw [b2 j (by omega)] at he; exact hb2.inj i j (by omega) x (by omega) y he
  · intro i x
    by_cases c : i < l0
    · rw [b1 i c]; have := hb1.fresh i (Nat.zero_le _) c; omega
    · rw [b2 i (by omega)]; have := hb2.fresh i (by omega) x; omega
  · refine hb2.nodes.congr (fun i hi => ?_)
    by_cases c : i < l0
    · rw [if_neg (by omega), if_pos ⟨Nat.zero_le _, c⟩, nodeAt, nodeAt, b1 i c]
    · rw [if_pos ⟨by omega, hi⟩, nodeAt, nodeAt, b2 i (by omega)]

/-- 'merge' has turned the nodes' blocks alone. -/
theorem merged {N S P : Nat → Int} {blk : Nat → Nat} {bn bs bp bd n L : Nat} {w w' : World} (hg : Given N S P bn bs bp bd n w) (hd : w.rowIs bd 43 n (nodeAt blk)) (hL : bn < L ∧ bs < L ∧ bp < L ∧ bd < L) (hf : ∀ i, i < n → L ≤ blk i)
    (ho : Only (fun b => ∃ i, 0 ≤ i ∧ i < n ∧ b = blk i) w w') : Given N S P bn bs bp bd n w' ∧ w'.rowIs bd 43 n (nodeAt blk) := by
  have hk : ∀ b, b < L → ¬ ∃ i, 0 ≤ i ∧ i < n ∧ b = blk i := fun b hb ⟨i, _, hi, e⟩ => by have := hf i hi; omega
  exact ⟨⟨hg.ns.of_block (ho.block _ hg.ns.lt (hk _ hL.1)), hg.shape.of_block (ho.block _ hg.shape.lt (hk _ hL.2.1)), hg.prios.of_block (ho.block _ hg.prios.lt (hk _ hL.2.2.1)), hg.ne⟩, hd.of_block (ho.block _ hd.lt (hk _ hL.2.2.2))⟩

end Go.Proofs.Qxb6602551a

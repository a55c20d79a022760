/-
  THE PLAIN PART of the merge laws: a binary tree in memory, told by intervals of indices; no Go text is walked here.
  'T f w p lo hi': in the world w the pointer p leads to a tree whose nodes, in order, are those of the indices lo .. hi-1; node i lies in block 'blk i'; its count is 'N i', its priority 'pr i'; its span is the wrapped sum of the counts of its subtree;
  'Q lo m hi' is asked of every root m of an interval lo .. hi-1. f bounds the depth.
-/
import Derived.Deep.OwnRows
import Derived.Below
namespace Go.Proofs.Qxb6602551a
open Go.RowKit

/-! ### Worlds -/

/-- Nothing but the blocks of S, and new blocks, has turned. -/
structure Only (S : Nat → Prop) (w w' : World) : Prop where
  os : w'.os = w.os
  tape : w'.tape = w.tape
  output : w'.output = w.output
  size : w.heap.size ≤ w'.heap.size
  block : ∀ k, k < w.heap.size → ¬ S k → w'.heap[k]? = w.heap[k]?

theorem Only.refl (S : Nat → Prop) (w : World) : Only S w w := ⟨rfl, rfl, rfl, Nat.le_refl _, fun _ _ _ => rfl⟩

theorem Only.trans {S : Nat → Prop} {a b c : World} (h : Only S a b) (k : Only S b c) : Only S a c :=
  ⟨k.os.trans h.os, k.tape.trans h.tape, k.output.trans h.output, Nat.le_trans h.size k.size,
    fun i hi hn => (k.block i (Nat.lt_of_lt_of_le hi h.size) hn).trans (h.block i hi hn)⟩

/-- Two steps; the second may turn what the first has made. -/
theorem Only.trans' {S S' : Nat → Prop} {a b c : World} (h : Only S a b) (k : Only S' b c) (hS : ∀ i, i < a.heap.size → S' i → S i) : Only S a c :=
  ⟨k.os.trans h.os, k.tape.trans h.tape, k.output.trans h.output, Nat.le_trans h.size k.size,
    fun i hi hn => (k.block i (Nat.lt_of_lt_of_le hi h.size) (fun hs => hn (hS i hi hs))).trans (h.block i hi hn)⟩

theorem Only.weaken {S S' : Nat → Prop} {a b : World} (h : Only S a b) (hS : ∀ i, i < a.heap.size → S i → S' i) : Only S' a b :=
  ⟨h.os, h.tape, h.output, h.size, fun i hi hn => h.block i hi (fun hs => hn (hS i hi hs))⟩

theorem Only.drew {S : Nat → Prop} {a b : World} (h : Only S a b) : Only S a b.drew := ⟨h.os, h.tape, h.output, h.size, h.block⟩

theorem Only.alloc {S : Nat → Prop} {a b : World} (h : Only S a b) (o : Obj) : Only S a (b.alloc o) :=
  h.trans ⟨rfl, rfl, rfl, by simp, fun k hk _ => Below.heap_alloc _ _ _ hk⟩

theorem Only.setCell {S : Nat → Prop} {a b : World} (h : Only S a b) {p : Addr} (hp : p.block < a.heap.size → S p.block) (u : Value) : Only S a (b.setCell p u) :=
  ⟨h.os, h.tape, h.output, by simpa using h.size, fun k hk hn => by
    have hne : k ≠ p.block := fun e => by subst e; exact hn (hp hk)
    rw [Below.heap_setCell _ _ _ _ hne]; exact h.block k hk hn⟩

theorem Only.below {S : Nat → Prop} {B : Nat} {a b : World} (h : Only S a b) (hB : B ≤ a.heap.size) (hS : ∀ k, S k → B ≤ k) : Below B a b :=
  ⟨h.os, h.tape, h.output, h.size, fun k hk => h.block k (by omega) (fun hs => by have := hS k hs; omega)⟩

theorem Only.of_heap {S : Nat → Prop} {a b c : World} (h : Only S a b) (hh : c.heap = b.heap) (ho : c.os = b.os) (ht : c.tape = b.tape) (hu : c.output = b.output) : Only S a c :=
  ⟨ho.trans h.os, ht.trans h.tape, hu.trans h.output, by rw [hh]; exact h.size, fun k hk hn => by rw [hh]; exact h.block k hk hn⟩

/-! ### Sums -/

def sm (N : Nat → Int) (lo : Nat) : Nat → Int
  | 0 => 0
  | k + 1 => sm N lo k + N (lo + k)

theorem sm_add (N : Nat → Int) (lo a : Nat) : ∀ b, sm N lo (a + b) = sm N lo a + sm N (lo + a) b
  | 0 => by simp [sm]
  | b + 1 => by
    show sm N lo (a + b) + N (lo + (a + b)) = sm N lo a + (sm N (lo + a) b + N (lo + a + b))
    rw [sm_add N lo a b, Nat.add_assoc lo a b]; omega

theorem sm_split (N : Nat → Int) {lo m hi : Nat} (h1 : lo ≤ m) (h2 : m < hi) : sm N lo (hi - lo) = sm N lo (m - lo) + N m + sm N (m + 1) (hi - (m + 1)) := by
  have e : hi - lo = (m - lo) + 1 + (hi - (m + 1)) := by omega
  rw [e, sm_add, sm_add]
  have e1 : lo + (m - lo) = m := by omega
  have e2 : lo + (m - lo + 1) = m + 1 := by omega
  rw [e1, e2]
  simp [sm]

theorem wrap64_add3 (a b c : Int) : wrap64 (wrap64 (wrap64 a + b) + wrap64 c) = wrap64 (a + b + c) := by
  unfold wrap64; omega

theorem wrap64_split (N : Nat → Int) {lo m hi : Nat} (h1 : lo ≤ m) (h2 : m < hi) :
    wrap64 (wrap64 (wrap64 (sm N lo (m - lo)) + N m) + wrap64 (sm N (m + 1) (hi - (m + 1)))) = wrap64 (sm N lo (hi - lo)) := by
  rw [wrap64_add3, sm_split N h1 h2]

/-! ### A node, a tree -/

def node (n s p : Int) (l r : Option Addr) : Obj := .cells #[.int .i64 0, .int .i64 n, .slice none 0 0, .int .i64 s, .int .u64 p, .pointer l, .pointer r] 81 (0, 0)

theorem node_cell {w : World} {b : Nat} {n s p : Int} {l r : Option Addr} (h : w.heap[b]? = some (node n s p l r)) :
    w.cell? ⟨b, 1, none⟩ = some (.int .i64 n) ∧ w.cell? ⟨b, 3, none⟩ = some (.int .i64 s) ∧ w.cell? ⟨b, 4, none⟩ = some (.int .u64 p) ∧
    w.cell? ⟨b, 5, none⟩ = some (.pointer l) ∧ w.cell? ⟨b, 6, none⟩ = some (.pointer r) := by
  simp [World.cell?, h, node]

theorem node_frozen {w : World} {b : Nat} {n s p : Int} {l r : Option Addr} (h : w.heap[b]? = some (node n s p l r)) (o : Nat) : w.frozen? ⟨b, o, none⟩ = false := by
  simp [World.frozen?, h, node]

theorem node_set3 {w : World} {b : Nat} {n s p : Int} {l r : Option Addr} (h : w.heap[b]? = some (node n s p l r)) (s' : Int) :
    (w.setCell ⟨b, 3, none⟩ (.int .i64 s')).heap[b]? = some (node n s' p l r) := by
  simp [World.setCell, Array.getElem?_modify, h, node]
theorem node_set5 {w : World} {b : Nat} {n s p : Int} {l r : Option Addr} (h : w.heap[b]? = some (node n s p l r)) (l' : Option Addr) :
    (w.setCell ⟨b, 5, none⟩ (.pointer l')).heap[b]? = some (node n s p l' r) := by
  simp [World.setCell, Array.getElem?_modify, h, node]
theorem node_set6 {w : World} {b : Nat} {n s p : Int} {l r : Option Addr} (h : w.heap[b]? = some (node n s p l r)) (r' : Option Addr) :
    (w.setCell ⟨b, 6, none⟩ (.pointer r')).heap[b]? = some (node n s p l r') := by
  simp [World.setCell, Array.getElem?_modify, h, node]

/-- What '(*node).length' answers at p. -/
def Len (w : World) (p : Option Addr) (s : Int) : Prop :=
  (p = none ∧ s = 0) ∨ ∃ b, p = some ⟨b, 0, none⟩ ∧ w.cell? ⟨b, 3, none⟩ = some (.int .i64 s)

section
variable (N pr : Nat → Int) (blk : Nat → Nat) (Q : Nat → Nat → Nat → Prop)

def T : Nat → World → Option Addr → Nat → Nat → Prop
  | 0, _, p, lo, hi => p = none ∧ lo = hi
  | f + 1, w, p, lo, hi => (p = none ∧ lo = hi) ∨ ∃ m pl pr', lo ≤ m ∧ m < hi ∧ Q lo m hi ∧ p = some ⟨blk m, 0, none⟩ ∧
      w.heap[blk m]? = some (node (N m) (wrap64 (sm N lo (hi - lo))) (pr m) pl pr') ∧ T f w pl lo m ∧ T f w pr' (m + 1) hi

end

section
variable {N pr : Nat → Int} {blk : Nat → Nat} {Q : Nat → Nat → Nat → Prop}

theorem T.nil (f : Nat) (w : World) (lo : Nat) : T N pr blk Q f w none lo lo := by
  cases f with
  | zero => exact ⟨rfl, rfl⟩
  | succ f => exact Or.inl ⟨rfl, rfl⟩

theorem T.le : ∀ {f : Nat} {w : World} {p : Option Addr} {lo hi : Nat}, T N pr blk Q f w p lo hi → lo ≤ hi
  | 0, _, _, _, _, h => Nat.le_of_eq h.2
  | _ + 1, _, _, _, _, h => by
    rcases h with h | ⟨m, _, _, h1, h2, _⟩
    · exact Nat.le_of_eq h.2
    · omega

theorem T.succ : ∀ {f : Nat} {w : World} {p : Option Addr} {lo hi : Nat}, T N pr blk Q f w p lo hi → T N pr blk Q (f + 1) w p lo hi
  | 0, _, _, _, _, h => Or.inl h
  | _ + 1, _, _, _, _, h => by
    rcases h with h | ⟨m, pl, pr', h1, h2, h3, h4, h5, h6, h7⟩
    · exact Or.inl h
    · exact Or.inr ⟨m, pl, pr', h1, h2, h3, h4, h5, h6.succ, h7.succ⟩

theorem T.more {f g : Nat} {w : World} {p : Option Addr} {lo hi : Nat} (h : T N pr blk Q f w p lo hi) (hg : f ≤ g) : T N pr blk Q g w p lo hi := by
  obtain ⟨k, rfl⟩ : ∃ k, g = f + k := ⟨g - f, by omega⟩
  clear hg
  induction k with
  | zero => exact h
  | succ k ih => exact ih.succ

/-- The tree lies in every world that holds its blocks. -/
theorem T.carry : ∀ {f : Nat} {w w' : World} {p : Option Addr} {lo hi : Nat}, T N pr blk Q f w p lo hi →
    (∀ i, lo ≤ i → i < hi → w'.heap[blk i]? = w.heap[blk i]?) → T N pr blk Q f w' p lo hi
  | 0, _, _, _, _, _, h, _ => h
  | _ + 1, _, _, _, _, _, h, hs => by
    rcases h with h | ⟨m, pl, pr', h1, h2, h3, h4, h5, h6, h7⟩
    · exact Or.inl h
    · exact Or.inr ⟨m, pl, pr', h1, h2, h3, h4, (hs m h1 h2).trans h5, h6.carry (fun i a b => hs i a (by omega)), h7.carry (fun i a b => hs i (by omega) b)⟩

/-- Every node's block is there. -/
theorem T.lt : ∀ {f : Nat} {w : World} {p : Option Addr} {lo hi : Nat}, T N pr blk Q f w p lo hi → ∀ i, lo ≤ i → i < hi → blk i < w.heap.size
  | 0, _, _, _, _, h, i, h1, h2 => by have := h.2; omega
  | _ + 1, _, _, _, _, h, i, g1, g2 => by
    rcases h with h | ⟨m, pl, pr', h1, h2, h3, h4, h5, h6, h7⟩
    · have := h.2; omega
    · by_cases e : i = m
      · subst e; exact (Array.getElem?_eq_some_iff.1 h5).1
      · by_cases e' : i < m
        · exact h6.lt i g1 e'
        · exact h7.lt i (by omega) g2

/-- The tree stands where nothing of it has turned. -/
theorem T.only {S : Nat → Prop} {f : Nat} {w w' : World} {p : Option Addr} {lo hi : Nat} (h : T N pr blk Q f w p lo hi) (ho : Only S w w') (hS : ∀ i, lo ≤ i → i < hi → ¬ S (blk i)) : T N pr blk Q f w' p lo hi :=
  h.carry (fun i h1 h2 => ho.block _ (h.lt i h1 h2) (hS i h1 h2))

theorem T.shape {Q' : Nat → Nat → Nat → Prop} (hQ : ∀ lo m hi, Q lo m hi → Q' lo m hi) : ∀ {f : Nat} {w : World} {p : Option Addr} {lo hi : Nat}, T N pr blk Q f w p lo hi → T N pr blk Q' f w p lo hi
  | 0, _, _, _, _, h => h
  | _ + 1, _, _, _, _, h => by
    rcases h with h | ⟨m, pl, pr', h1, h2, h3, h4, h5, h6, h7⟩
    · exact Or.inl h
    · exact Or.inr ⟨m, pl, pr', h1, h2, hQ _ _ _ h3, h4, h5, h6.shape hQ, h7.shape hQ⟩

theorem T.len {f : Nat} {w : World} {p : Option Addr} {lo hi : Nat} (h : T N pr blk Q f w p lo hi) : Len w p (wrap64 (sm N lo (hi - lo))) := by
  have hn : ∀ {q : Option Addr}, q = none → lo = hi → Len w q (wrap64 (sm N lo (hi - lo))) := by
    intro q hq he; subst hq; subst he; exact Or.inl ⟨rfl, by simp [sm, wrap64]⟩
  cases f with
  | zero => exact hn h.1 h.2
  | succ f =>
    rcases h with h | ⟨m, pl, pr', h1, h2, h3, h4, h5, h6, h7⟩
    · exact hn h.1 h.2
    · exact Or.inr ⟨blk m, h4, (node_cell h5).2.1⟩

end
end Go.Proofs.Qxb6602551a

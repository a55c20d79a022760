/-
  THE WALK of canonAppendInsert: the model of 'insert' by another road.
-/
import Derived.Test.Qxb6602551aFlush
import Derived.Test.Qxb6602551aGrow
namespace Go.Proofs.Qxb6602551a
open Go.RowKit

/-- What the loop owns: the parts that it has laid down, and the bytes that are pending. -/
structure Mem (base : Nat) (w : World) (vo vi : Value) (out : List Pt) (ins : List Int) : Prop where
  out : OutAt base vi.ownBlock w vo out
  ins : w.ownsRow base 5 1 vi ins.length (bytes ins)
  apart : vi.ownBlock = none ∨ vi.ownBlock ≠ vo.ownBlock
  base : base ≤ w.heap.size

theorem Mem.start (w : World) : Mem w.heap.size w (.slice none 0 0) (.slice none 0 0) [] [] :=
  ⟨⟨[], World.ownsRow_nil _ _ _ _, Flat.nil _ _⟩, World.ownsRow_nil _ _ _ _, Or.inl rfl, Nat.le_refl _⟩

/-- The pending bytes, as a text that may be laid down. -/
theorem Mem.txt {base : Nat} {w : World} {vo vi : Value} {out : List Pt} {ins : List Int} (h : Mem base w vo vi out ins) : ∃ ai ic, vi = .slice ai ins.length ic ∧ TxtAt (fun b => base ≤ b ∧ some b ≠ vo.ownBlock ∧ some b ≠ none) w ai ins := by
  rcases h.ins.2 with ⟨hv, hn⟩ | ⟨g, cap, cur, hv, hb, hg, _⟩
  · refine ⟨none, 0, by rw [hv, hn], fun i u hu => ?_⟩
    have : i < ins.length := (List.getElem?_eq_some_iff.1 hu).1
    omega
  · refine ⟨some ⟨g, 0, none⟩, cap, hv, fun i u hu => ⟨g, 0, rfl, ⟨hb, ?_, fun e => by cases e⟩, ?_⟩⟩
    · rcases h.apart with e | e
      · rw [hv] at e; cases e
      · rw [hv] at e; exact e
    · have h' := h.ins
      rw [hv] at h'
      have := h'.cells (g := g) rfl i (.int .u8 u) (by simp [bytes, hu])
      rwa [Addr.add_lit] at this

theorem OutAt.free {base : Nat} {ban : Option Nat} {w : World} {v : Value} {L : List Pt} (h : OutAt base ban w v L) : OutAt base none w v L := by
  obtain ⟨xs, h1, h2⟩ := h
  exact ⟨xs, h1, h2.carry (fun b hb _ => ⟨hb.1, hb.2.1, fun e => by cases e⟩) (fun _ _ _ => rfl)⟩

theorem OutAt.form {base : Nat} {ban : Option Nat} {w : World} {v : Value} {L : List Pt} (h : OutAt base ban w v L) : ∃ a c, v = .slice a L.length c := by
  obtain ⟨xs, h1, _⟩ := h
  rcases h1.2 with ⟨hv, hn⟩ | ⟨g, cap, cur, hv, _⟩
  · exact ⟨none, 0, by rw [hv, hn]⟩
  · exact ⟨_, _, hv⟩

/-- Parts that the call owns, read. -/
theorem OutAt.parts {base : Nat} {ban : Option Nat} {w : World} {a : Option Addr} {n c : Nat} {L : List Pt} (h : OutAt base ban w (.slice a n c) L) : PartsAt (fun _ => True) (fun _ => True) w a L := by
  obtain ⟨xs, h1, h2⟩ := h
  intro i p hp
  have hi : i < L.length := (List.getElem?_eq_some_iff.1 hp).1
  obtain ⟨q0, q1, ta, tc, q2, q3⟩ := h2.2 i p hp
  rcases h1.2 with ⟨_, hn⟩ | ⟨g, cap, cur, hv, _⟩
  · omega
  · injection hv with hv1 hv2 hv3
    subst hv1
    have hc : ∀ (j : Nat) (u : Value), xs[j]? = some u → w.cell? ⟨g, 0 + j, none⟩ = some u := fun j u hu => by
      have := h1.cells (g := g) rfl j u hu
      rwa [Addr.add_lit] at this
    refine ⟨g, 0, ta, tc, rfl, trivial, hc _ _ q0, ?_, ?_, q3.carry (fun _ _ => trivial) (fun _ _ _ => rfl)⟩
    · have := hc _ _ q1; rwa [← Nat.add_assoc] at this
    · have := hc _ _ q2; rwa [← Nat.add_assoc] at this

/-- 'append' onto the pending bytes, as a law for the walk of a plain region. -/
theorem wpList_insapd {ops : Array Oper} {rest : List Oper} {o : Oper} {a : Act} {Q : Exit → Act → World → Prop} (hgd : o.guard = none) (s x : Operand) (ho : o.op = .call { callee := .builtin .append, args := #[s, x], argTypes := #[23, 23] })
    (base : Nat) (w : World) (vo vi : Value) (out : List Pt) (ins : List Int) (ad : Addr) (tc : Nat) (t : List Int) (hs : a.eval s = vi) (hx : a.eval x = .slice (some ad) t.length tc) (hm : Mem base w vo vi out ins) {G : Nat → Prop} (ht : TxtAt G w (some ad) t) (h0 : t ≠ []) (hl : ins.length + t.length ≤ 4000000)
    (h : ∀ g cap w', Mem base w' vo (.slice (some ⟨g, 0, none⟩) (ins.length + t.length) cap) out (ins ++ t) → Below base w w' → wpList Try.prog ops Q rest (a.put o.dst (.slice (some ⟨g, 0, none⟩) (ins.length + t.length) cap)) w') :
    wpList Try.prog ops Q (o :: rest) a w := by
  obtain ⟨i5, hi, hz, hsz, hby⟩ := info5'
  have hp := List.length_pos_iff.2 h0
  refine wpList_append_lies w hgd s x 23 ho base 5 i5 (.int .u8 0) 1 1 Try.underlying23 hi hz hsz hby rfl (by decide) vi ins.length (bytes ins) hs hm.ins ad t.length tc (bytes t) hx (by rw [bytes_length, Nat.mul_one]) ht.news (bytes_one t) hp (by simp only [maxLen]; omega) (by omega) hm.base _ rfl ?_
  intro g cap w' hown hgr hat hlt
  have eb : bytes ins ++ bytes t = bytes (ins ++ t) := by simp [bytes]
  have hk : ∀ b, some b ≠ vi.ownBlock → b < w.heap.size → w'.heap[b]? = w.heap[b]? := fun b hb hl => hgr.block b hl hb
  have hbl : Below base w w' := ⟨hgr.os, hgr.tape, hgr.output, hgr.size, fun k hk' => hgr.block k (by have := hm.base; omega) (fun e => by have := hm.ins.lt k e.symm; omega)⟩
  have hne : ∀ b, some b ≠ vi.ownBlock → b < w.heap.size → b ≠ g := by
    intro b hb hl e
    subst e
    rcases hat with h | h
    · exact hb h.symm
    · omega
  obtain ⟨xs, o1, o2⟩ := hm.out
  have hvo : ∀ k, vo.ownBlock = some k → k ≠ g ∧ some k ≠ vi.ownBlock := by
    intro k hk'
    have hkl := (o1.lt k hk').2
    have : some k ≠ vi.ownBlock := by
      intro e
      rcases hm.apart with e' | e'
      · rw [e'] at e; cases e
      · exact e' (e.symm.trans hk'.symm)
    exact ⟨hne k this hkl, this⟩
  refine h g cap w' ⟨⟨xs, ?_, ?_⟩, ?_, ?_, Nat.le_trans hm.base hgr.size⟩ hbl
  · refine o1.kept hgr ?_
    cases e : vo.ownBlock with
    | none => exact Or.inl rfl
    | some k => exact Or.inr (hvo k e).2
  · exact o2.carry (fun b hb hl => ⟨hb.1, hb.2.1, fun e => hne b hb.2.2 hl (by simpa [Value.ownBlock] using e)⟩) (fun b hb hl => hk b hb.2.2 hl)
  · rw [eb] at hown
    simpa using hown
  · right
    intro e
    have e : some g = vo.ownBlock := e
    exact (hvo g e.symm).1 rfl

/-- Behind a flush and an append of a kept run. -/
theorem Mem.retained {base : Nat} {w w' w1 : World} {vo v' v'' : Value} {L L' : List Pt} (h1 : Fl base none w w' vo v' L) (h2 : Apd base none w' w1 v' v'' L') (hb : base ≤ w.heap.size) : Mem base w1 v'' (.slice none 0 0) L' [] :=
  ⟨h2.out, World.ownsRow_nil _ _ _ _, Or.inl rfl, Nat.le_trans hb (Nat.le_trans h1.grown.size h2.grown.size)⟩

/-- Nothing below 'base' has turned. -/
theorem Fl.below {base : Nat} {ban : Option Nat} {w w' : World} {v v' : Value} {L0 L : List Pt} {ban0 : Option Nat} (h : Fl base ban w w' v v' L) (h0 : OutAt base ban0 w v L0) (hb : base ≤ w.heap.size) : Below base w w' := by
  obtain ⟨xs, o1, _⟩ := h0
  exact ⟨h.grown.os, h.grown.tape, h.grown.output, h.grown.size, fun k hk => h.grown.block k (by omega) (fun e => by have := o1.lt k e.symm; omega)⟩

end Go.Proofs.Qxb6602551a

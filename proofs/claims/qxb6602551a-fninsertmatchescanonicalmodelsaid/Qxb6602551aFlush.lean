/-
  THE WALK of flushPending: what is pending is laid down behind a list of parts that the call owns.
-/
import Derived.Test.Qxb6602551aOpen
import Derived.Deep.AppendLies
namespace Go.Proofs.Qxb6602551a
open Go.RowKit

/-- The cells of a list of parts; the texts lie in blocks that G lets. -/
def Flat (G : Nat → Prop) (w : World) (xs : List Value) (L : List Pt) : Prop :=
  xs.length = L.length * 3 ∧ ∀ (i : Nat) (p : Pt), L[i]? = some p → xs[i * 3]? = some (.int .i64 p.1) ∧ xs[i * 3 + 1]? = some (.int .i64 p.2.1) ∧ ∃ ta tc, xs[i * 3 + 2]? = some (.slice ta p.2.2.length tc) ∧ TxtAt G w ta p.2.2

theorem Flat.nil (G : Nat → Prop) (w : World) : Flat G w [] [] := ⟨rfl, fun i p h => by simp at h⟩

theorem Flat.carry {G G' : Nat → Prop} {w w' : World} {xs : List Value} {L : List Pt} (h : Flat G w xs L) (hG : ∀ b, G b → b < w.heap.size → G' b) (hk : ∀ b, G b → b < w.heap.size → w'.heap[b]? = w.heap[b]?) : Flat G' w' xs L :=
  ⟨h.1, fun i p hp => by
    obtain ⟨a, b, ta, tc, c, d⟩ := h.2 i p hp
    exact ⟨a, b, ta, tc, c, TxtAt.carry' d hG hk⟩⟩

theorem Flat.snoc {G : Nat → Prop} {w : World} {xs : List Value} {L : List Pt} (h : Flat G w xs L) {p : Pt} {ta : Option Addr} {tc : Nat} (ht : TxtAt G w ta p.2.2) : Flat G w (xs ++ [.int .i64 p.1, .int .i64 p.2.1, .slice ta p.2.2.length tc]) (L ++ [p]) := by
  refine ⟨by simp [h.1]; omega, fun i q hq => ?_⟩
  by_cases e : i < L.length
  · rw [List.getElem?_append_left e] at hq
    obtain ⟨a, b, ta', tc', c, d⟩ := h.2 i q hq
    have hl := h.1
    exact ⟨by rw [List.getElem?_append_left (by omega)]; exact a, by rw [List.getElem?_append_left (by omega)]; exact b, ta', tc', by rw [List.getElem?_append_left (by omega)]; exact c, d⟩
  · have hi : i < (L ++ [p]).length := (List.getElem?_eq_some_iff.1 hq).1
    simp at hi
    obtain rfl : i = L.length := by omega
    rw [List.getElem?_append_right (Nat.le_refl _)] at hq
    simp at hq
    subst hq
    have hl := h.1
    refine ⟨?_, ?_, ta, tc, ?_, ht⟩
    · rw [List.getElem?_append_right (by omega), hl]; simp
    · rw [List.getElem?_append_right (by omega), hl]; simp
    · rw [List.getElem?_append_right (by omega), hl]; simp

/-- A value that owns the parts L; their texts lie in blocks from 'base' on, none of them its own, none in the way of 'ban'. -/
def OutAt (base : Nat) (ban : Option Nat) (w : World) (v : Value) (L : List Pt) : Prop :=
  ∃ xs, w.ownsRow base 56 3 v L.length xs ∧ Flat (fun b => base ≤ b ∧ some b ≠ v.ownBlock ∧ some b ≠ ban) w xs L

theorem info56' : ∃ i, Try.prog.info? 56 = some i ∧ i.zero = some (.agg #[.int .i64 0, .int .i64 0, .slice none 0 0]) ∧ i.size = 3 ∧ i.bytes = 40 := by
  obtain ⟨i, hi, hzz⟩ := Option.map_eq_some_iff.1 info56
  simp only [Prod.mk.injEq] at hzz
  exact ⟨i, hi, hzz.1, hzz.2.1, hzz.2.2⟩

theorem one56 (k np : Int) (ta : Option Addr) (tl tc : Nat) : ∀ u ∈ ([.int .i64 k, .int .i64 np, .slice ta tl tc] : List Value), u.oneCell' = true := by
  intro u hu
  simp at hu
  rcases hu with rfl | rfl | rfl <;> rfl

/-- What one append of a part leaves. -/
structure Apd (base : Nat) (ban : Option Nat) (w w' : World) (v v' : Value) (L : List Pt) : Prop where
  out : OutAt base ban w' v' L
  grown : w.grownBy w' v.ownBlock
  at' : v'.ownBlock = v.ownBlock ∨ ∃ g, v'.ownBlock = some g ∧ w.heap.size ≤ g
  form : ∃ g cap, v' = .slice (some ⟨g, 0, none⟩) L.length cap

theorem apd_of {base : Nat} {ban : Option Nat} {w w' : World} {v : Value} {L : List Pt} {xs : List Value} {p : Pt} {ta : Option Addr} {tc g cap : Nat} (hf : Flat (fun b => base ≤ b ∧ some b ≠ v.ownBlock ∧ some b ≠ ban) w xs L)
    (ht : TxtAt (fun b => base ≤ b ∧ some b ≠ v.ownBlock ∧ some b ≠ ban) w ta p.2.2) (o : Obj)
    (hown : w'.ownsRow base 56 3 (.slice (some ⟨g, 0, none⟩) (L.length + 1) cap) (L.length + 1) (xs ++ [.int .i64 p.1, .int .i64 p.2.1, .slice ta p.2.2.length tc])) (hgr : (w.alloc o).grownBy w' v.ownBlock) (hat : v.ownBlock = some g ∨ g = w.heap.size + 1) :
    Apd base ban w w' v (.slice (some ⟨g, 0, none⟩) (L.length + 1) cap) (L ++ [p]) := by
  have hk : ∀ b, some b ≠ v.ownBlock → b < w.heap.size → w'.heap[b]? = w.heap[b]? := fun b hb hl => (hgr.block b (by simp; omega) hb).trans (Below.heap_alloc _ _ _ hl)
  have hG : ∀ b, (base ≤ b ∧ some b ≠ v.ownBlock ∧ some b ≠ ban) → b < w.heap.size → base ≤ b ∧ some b ≠ (Value.slice (some ⟨g, 0, none⟩) (L.length + 1) cap).ownBlock ∧ some b ≠ ban := by
    intro b ⟨h1, h2, h3⟩ hl
    refine ⟨h1, fun e => ?_, h3⟩
    have e : b = g := by simpa [Value.ownBlock] using e
    subst e
    rcases hat with h | h
    · exact h2 h.symm
    · omega
  refine ⟨⟨_, by simpa using hown, (hf.carry hG (fun b hb hl => hk b hb.2.1 hl)).snoc (TxtAt.carry' ht hG (fun b hb hl => hk b hb.2.1 hl))⟩, ⟨hgr.os, hgr.tape, hgr.output, Nat.le_trans (by simp) hgr.size, fun b hb hn => hk b hn hb⟩, ?_, ⟨g, cap, by simp⟩⟩
  rcases hat with h | h
  · exact Or.inl (by rw [h]; rfl)
  · exact Or.inr ⟨g, rfl, by omega⟩

/-- Nothing, one part or two have been appended. -/
structure Fl (base : Nat) (ban : Option Nat) (w w' : World) (v v' : Value) (L : List Pt) : Prop where
  out : OutAt base ban w' v' L
  grown : w.grownBy w' v.ownBlock
  at' : v'.ownBlock = v.ownBlock ∨ ∃ g, v'.ownBlock = some g ∧ w.heap.size ≤ g

def Flushed (base : Nat) (ban : Option Nat) (w : World) (v : Value) (L : List Pt) (e : Ending) (w' : World) : Prop := ∃ v', e = .returned v' ∧ Fl base ban w w' v v' L

set_option maxHeartbeats 1000000 in
theorem flush_ff (base : Nat) (ban : Option Nat) (a ai : Option Addr) (n c il ic : Nat) (del : Int) (L : List Pt) (w : World) (ho : OutAt base ban w (.slice a n c) L) :
    Calls Try.prog 32 #[.slice a n c, .slice ai il ic, .bool false, .int .i64 del, .bool false] w fun e w' => Flushed base ban w (.slice a n c) L e w' := by
  have Ho : Hid (OutAt base ban w (.slice a n c) L) := ho
  clear ho
  go_enter Try.func32, Try.ntmps32
  go_wp2
  go_ret
  exact ⟨_, rfl, Ho.out, ⟨rfl, rfl, rfl, Nat.le_refl _, fun _ _ _ => rfl⟩, Or.inl rfl⟩

theorem Apd.fl {base : Nat} {ban : Option Nat} {w w' : World} {v v' : Value} {L : List Pt} (h : Apd base ban w w' v v' L) : Fl base ban w w' v v' L := ⟨h.out, h.grown, h.at'⟩

/-- Two appends behind one another. -/
theorem Apd.two {base : Nat} {ban : Option Nat} {w w1 w2 : World} {v v1 v2 : Value} {L1 L2 : List Pt} (h : Apd base ban w w1 v v1 L1) (k : Apd base ban w1 w2 v1 v2 L2) : Fl base ban w w2 v v2 L2 := by
  have hsz := h.grown.size
  refine ⟨k.out, ⟨k.grown.os.trans h.grown.os, k.grown.tape.trans h.grown.tape, k.grown.output.trans h.grown.output, Nat.le_trans hsz k.grown.size, fun b hb hn => ?_⟩, ?_⟩
  · rw [k.grown.block b (by omega) ?_]
    · exact h.grown.block b hb hn
    · rcases h.at' with e | ⟨g, e, hg⟩
      · rw [e]; exact hn
      · rw [e]; intro e'; injection e' with e'; omega
  · rcases k.at' with e | ⟨g, e, hg⟩
    · rw [e]; exact h.at'
    · exact Or.inr ⟨g, e, by omega⟩

/-- The append of one part, as a law for the walk of a plain region. -/
theorem wpList_apd {ops : Array Oper} {rest : List Oper} {o : Oper} {a : Act} {Q : Exit → Act → World → Prop} (hgd : o.guard = none) (s x : Operand) (ho : o.op = .call { callee := .builtin .append, args := #[s, x], argTypes := #[22, 22] })
    (base : Nat) (ban : Option Nat) (w : World) (v : Value) (L : List Pt) (p : Pt) (ta : Option Addr) (tc : Nat) (hs : a.eval s = v) (hx : a.eval x = .slice (some ⟨w.heap.size, 0, none⟩) 1 1) (hout : OutAt base ban w v L)
    (ht : TxtAt (fun b => base ≤ b ∧ some b ≠ v.ownBlock ∧ some b ≠ ban) w ta p.2.2) (hl : L.length ≤ 10000) (hb : base ≤ w.heap.size)
    (h : ∀ g cap w', Apd base ban w w' v (.slice (some ⟨g, 0, none⟩) (L.length + 1) cap) (L ++ [p]) → wpList Try.prog ops Q rest (a.put o.dst (.slice (some ⟨g, 0, none⟩) (L.length + 1) cap)) w') :
    wpList Try.prog ops Q (o :: rest) a (w.alloc (.cells #[.int .i64 p.1, .int .i64 p.2.1, .slice ta p.2.2.length tc] 56)) := by
  obtain ⟨i, hi, hz, hsz, hby⟩ := info56'
  obtain ⟨xs, hown, hf⟩ := hout
  refine wpList_append_lies _ hgd s x 22 ho base 56 i _ 3 40 Try.underlying22 hi hz hsz hby rfl (by decide) v L.length xs hs (hown.alloc _) ⟨w.heap.size, 0, none⟩ 1 1 [.int .i64 p.1, .int .i64 p.2.1, .slice ta p.2.2.length tc] hx rfl
    (World.news_of_block (cs := #[.int .i64 p.1, .int .i64 p.2.1, .slice ta p.2.2.length tc]) (t := 56) (fr := (0, 0)) (Deep.blk_alloc_new _ _)) (one56 _ _ _ _ _) (by decide) (by simp only [maxLen]; omega) (by omega) (by simp; omega) (w.heap.size + 1) (by simp) ?_
  intro g cap w' h1 h2 h3 _
  exact h g cap w' (apd_of hf ht _ h1 h2 h3)

set_option maxHeartbeats 1000000 in
theorem flush_tf (base : Nat) (ban : Option Nat) (a ai : Option Addr) (n c ic : Nat) (ins : List Int) (del : Int) (L : List Pt) (w : World) (ho : OutAt base ban w (.slice a n c) L) (hi : TxtAt (fun b => base ≤ b ∧ some b ≠ (Value.slice a n c).ownBlock ∧ some b ≠ ban) w ai ins) (hl : L.length ≤ 9000) (hb : base ≤ w.heap.size) :
    Calls Try.prog 32 #[.slice a n c, .slice ai ins.length ic, .bool true, .int .i64 del, .bool false] w fun e w' => Flushed base ban w (.slice a n c) (L ++ [(2, 0, ins)]) e w' := by
  have Ho : Hid (OutAt base ban w (.slice a n c) L) := ho
  have Hi : Hid (TxtAt (fun b => base ≤ b ∧ some b ≠ (Value.slice a n c).ownBlock ∧ some b ≠ ban) w ai ins) := hi
  clear ho hi
  go_enter Try.func32, Try.ntmps32
  go_wp2_with (at_builtin; refine wpList_apd rfl (.tmp 12) (.tmp 15) rfl base ban w (.slice a n c) L (2, 0, ins) ai ic rfl rfl Ho.out Hi.out (by omega) hb ?_)
  intro g cap w1 h1
  have H1 : Hid (Apd base ban w w1 (.slice a n c) (.slice (some ⟨g, 0, none⟩) (L.length + 1) cap) (L ++ [(2, 0, ins)])) := h1
  clear h1
  go_wp2
  go_ret
  exact ⟨_, rfl, H1.out.fl⟩

set_option maxHeartbeats 1000000 in
theorem flush_ft (base : Nat) (ban : Option Nat) (a ai : Option Addr) (n c il ic : Nat) (del : Int) (L : List Pt) (w : World) (ho : OutAt base ban w (.slice a n c) L) (hl : L.length ≤ 9000) (hb : base ≤ w.heap.size) :
    Calls Try.prog 32 #[.slice a n c, .slice ai il ic, .bool false, .int .i64 del, .bool true] w fun e w' => Flushed base ban w (.slice a n c) (L ++ [(1, del, [])]) e w' := by
  have Ho : Hid (OutAt base ban w (.slice a n c) L) := ho
  clear ho
  go_enter Try.func32, Try.ntmps32
  go_wp2_with (at_builtin; refine wpList_apd rfl (.tmp 18) (.tmp 21) rfl base ban w (.slice a n c) L (1, del, []) none 0 rfl rfl Ho.out (fun i u h => by simp at h) (by omega) hb ?_)
  intro g cap w1 h1
  have H1 : Hid (Apd base ban w w1 (.slice a n c) (.slice (some ⟨g, 0, none⟩) (L.length + 1) cap) (L ++ [(1, del, [])])) := h1
  clear h1
  go_wp2
  go_ret
  exact ⟨_, rfl, H1.out.fl⟩

set_option maxHeartbeats 1000000 in
theorem flush_tt (base : Nat) (ban : Option Nat) (a ai : Option Addr) (n c ic : Nat) (ins : List Int) (del : Int) (L : List Pt) (w : World) (ho : OutAt base ban w (.slice a n c) L) (hi : TxtAt (fun b => base ≤ b ∧ some b ≠ (Value.slice a n c).ownBlock ∧ some b ≠ ban) w ai ins) (hl : L.length ≤ 9000) (hb : base ≤ w.heap.size) :
    Calls Try.prog 32 #[.slice a n c, .slice ai ins.length ic, .bool true, .int .i64 del, .bool true] w fun e w' => Flushed base ban w (.slice a n c) (L ++ [(2, 0, ins), (1, del, [])]) e w' := by
  have Ho : Hid (OutAt base ban w (.slice a n c) L) := ho
  have Hi : Hid (TxtAt (fun b => base ≤ b ∧ some b ≠ (Value.slice a n c).ownBlock ∧ some b ≠ ban) w ai ins) := hi
  clear ho hi
  go_enter Try.func32, Try.ntmps32
  go_wp2_with (at_builtin; refine wpList_apd rfl (.tmp 12) (.tmp 15) rfl base ban w (.slice a n c) L (2, 0, ins) ai ic rfl rfl Ho.out Hi.out (by omega) hb ?_)
  intro g cap w1 h1
  have H1 : Hid (Apd base ban w w1 (.slice a n c) (.slice (some ⟨g, 0, none⟩) (L.length + 1) cap) (L ++ [(2, 0, ins)])) := h1
  have hs1 := h1.grown.size
  have el : (L ++ [((2 : Int), (0 : Int), ins)]).length = L.length + 1 := by simp
  have El : Hid _ := el
  clear h1 el
  go_wp2_with (at_builtin; refine wpList_apd rfl (.tmp 18) (.tmp 21) rfl base ban w1 (.slice (some ⟨g, 0, none⟩) (L.length + 1) cap) (L ++ [(2, 0, ins)]) (1, del, []) none 0 rfl rfl H1.out.out (fun i u h => by simp at h) (by rw [El.out]; omega) (by omega) ?_)
  intro g2 cap2 w2 h2
  have H2 : Hid (Apd base ban w1 w2 (.slice (some ⟨g, 0, none⟩) (L.length + 1) cap) (.slice (some ⟨g2, 0, none⟩) (L.length + 1 + 1) cap2) (L ++ [(2, 0, ins), (1, del, [])])) := h2
  clear h2
  go_wp2
  go_ret
  exact ⟨_, rfl, H1.out.two H2.out⟩

/-- ALL FOUR. -/
theorem flush_any (base : Nat) (ban : Option Nat) (a ai : Option Addr) (n c ic : Nat) (hi : Bool) (ins : List Int) (hd : Bool) (del : Int) (L : List Pt) (w : World) (ho : OutAt base ban w (.slice a n c) L) (ht : TxtAt (fun b => base ≤ b ∧ some b ≠ (Value.slice a n c).ownBlock ∧ some b ≠ ban) w ai ins) (hl : L.length ≤ 9000) (hb : base ≤ w.heap.size) :
    Calls Try.prog 32 #[.slice a n c, .slice ai ins.length ic, .bool hi, .int .i64 del, .bool hd] w fun e w' => Flushed base ban w (.slice a n c) (L ++ pend hi ins hd del) e w' := by
  cases hi <;> cases hd
  · simpa [pend] using flush_ff base ban a ai n c ins.length ic del L w ho
  · simpa [pend] using flush_ft base ban a ai n c ins.length ic del L w ho hl hb
  · simpa [pend] using flush_tf base ban a ai n c ic ins del L w ho ht hl hb
  · simpa [pend] using flush_tt base ban a ai n c ic ins del L w ho ht hl hb
end Go.Proofs.Qxb6602551a

/-
  THE PLAIN LAW of 'insert': no Go in sight. A part is (kind, count, text). 'Canon': the canonical form. 'Split': a canonical list falls into a head that is empty or ends in a kept run, and what is pending behind it (an insert, a delete, both, none).
-/
namespace Go.Proofs.Qxb6602551a

abbrev Pt := Int × Int × List Int

/-- A part by itself is as the canonical form asks. -/
def OkPart (p : Pt) : Prop := ((p.1 = 0 ∨ p.1 = 1) ∧ 0 < p.2.1 ∧ p.2.2 = []) ∨ (p.1 = 2 ∧ p.2.1 = 0 ∧ p.2.2 ≠ [])
/-- p may follow q. -/
def OkPair (q p : Pt) : Prop := q.1 ≠ p.1 ∧ ¬ (q.1 = 1 ∧ p.1 = 2)

/-- The first k parts are in canonical form. -/
def CanonTo (L : List Pt) (k : Nat) : Prop := ∀ i p, i < k → L[i]? = some p → OkPart p ∧ ∀ q, 0 < i → L[i - 1]? = some q → OkPair q p
def Canon (L : List Pt) : Prop := CanonTo L L.length

theorem CanonTo.zero (L : List Pt) : CanonTo L 0 := fun _ _ h => by omega

theorem CanonTo.succ {L : List Pt} {k : Nat} {p : Pt} (h : CanonTo L k) (hp : L[k]? = some p) (ok : OkPart p) (pair : ∀ q, 0 < k → L[k - 1]? = some q → OkPair q p) : CanonTo L (k + 1) := by
  intro i p' hi hp'
  by_cases e : i = k
  · subst e
    rw [hp] at hp'
    injection hp' with e
    subst e
    exact ⟨ok, pair⟩
  · exact h i p' (by omega) hp'

theorem Canon.at {L : List Pt} (h : Canon L) {i : Nat} {p : Pt} (hp : L[i]? = some p) : OkPart p ∧ ∀ q, 0 < i → L[i - 1]? = some q → OkPair q p := by
  have hi : i < L.length := (List.getElem?_eq_some_iff.1 hp).1
  exact h i p hi hp

/-- What is pending. -/
def pend (hi : Bool) (ins : List Int) (hd : Bool) (del : Int) : List Pt := (if hi then [(2, 0, ins)] else []) ++ (if hd then [(1, del, [])] else [])

/-- The head ends in a kept run, or is empty. -/
def HeadOk (out : List Pt) : Prop := out = [] ∨ ∃ o p, out = o ++ [p] ∧ p.1 = 0

structure Split (L : List Pt) (k : Nat) (out : List Pt) (hi : Bool) (ins : List Int) (hd : Bool) (del : Int) : Prop where
  take : L.take k = out ++ pend hi ins hd del
  head : HeadOk out
  noIns : hi = false → ins = []
  noDel : hd = false → del = 0

theorem Split.zero (L : List Pt) : Split L 0 [] false [] false 0 := ⟨rfl, Or.inl rfl, fun _ => rfl, fun _ => rfl⟩

theorem take_snoc {L : List Pt} {k : Nat} {p : Pt} (hp : L[k]? = some p) : L.take (k + 1) = L.take k ++ [p] := by
  rw [List.take_add_one, hp]; rfl

/-- The part just ahead, where something is pending. -/
theorem last_of_take {L : List Pt} {k : Nat} {A : List Pt} {x : Pt} (h : L.take k = A ++ [x]) (hk : k ≤ L.length) : 0 < k ∧ L[k - 1]? = some x := by
  have hl := congrArg List.length h
  simp at hl
  have hk0 : k = A.length + 1 := by omega
  refine ⟨by omega, ?_⟩
  have e : (L.take k)[k - 1]? = some x := by rw [h, hk0]; simp
  rw [List.getElem?_take] at e
  rw [if_pos (by omega)] at e
  exact e

section
variable {L : List Pt} {k : Nat} {p : Pt} {out : List Pt} {hi : Bool} {ins : List Int} {hd : Bool} {del : Int}

theorem Split.hd_last (s : Split L k out hi ins hd del) (hk : k ≤ L.length) (h : hd = true) : 0 < k ∧ L[k - 1]? = some (1, del, []) := by
  refine last_of_take (A := out ++ (if hi then [(2, 0, ins)] else [])) ?_ hk
  rw [s.take, pend, h]; simp
theorem Split.hi_last (s : Split L k out hi ins hd del) (hk : k ≤ L.length) (h : hi = true) (h' : hd = false) : 0 < k ∧ L[k - 1]? = some (2, 0, ins) := by
  refine last_of_take (A := out) ?_ hk
  rw [s.take, pend, h, h']; simp

/-- A kept run comes: what was pending is laid down, the run behind it. -/
theorem Split.retain (s : Split L k out hi ins hd del) (c : Canon L) (hp : L[k]? = some p) (h0 : p.1 = 0) :
    Split L (k + 1) (out ++ pend hi ins hd del ++ [(0, p.2.1, [])]) false [] false 0 := by
  have ok := (c.at hp).1
  have ep : p = (0, p.2.1, []) := by
    rcases ok with ⟨_, _, ht⟩ | ⟨h2, _, _⟩
    · obtain ⟨a, b, t⟩ := p; simp at h0 ht; subst h0; subst ht; rfl
    · omega
  refine ⟨?_, Or.inr ⟨out ++ pend hi ins hd del, _, rfl, rfl⟩, fun _ => rfl, fun _ => rfl⟩
  rw [take_snoc hp, s.take]
  simp only [pend]
  rw [ep]
  simp

/-- .. and behind what was laid down no kept run stands. -/
theorem Split.no_retain (s : Split L k out hi ins hd del) (c : Canon L) (hp : L[k]? = some p) (h0 : p.1 = 0) {o : List Pt} {q : Pt} (h : out ++ pend hi ins hd del = o ++ [q]) : q.1 ≠ 0 := by
  have hk : k < L.length := (List.getElem?_eq_some_iff.1 hp).1
  obtain ⟨h1, h2⟩ := last_of_take (s.take.trans h) (by omega)
  have := ((c.at hp).2 q h1 h2).1
  omega

theorem Split.delete (s : Split L k out hi ins hd del) (c : Canon L) (hp : L[k]? = some p) (h1 : p.1 = 1) : del = 0 ∧ Split L (k + 1) out hi ins true p.2.1 := by
  have hk : k < L.length := (List.getElem?_eq_some_iff.1 hp).1
  have ok := c.at hp
  have ep : p = (1, p.2.1, []) := by
    rcases ok.1 with ⟨_, _, ht⟩ | ⟨h2, _, _⟩
    · obtain ⟨a, b, t⟩ := p; simp at h1 ht; subst h1; subst ht; rfl
    · omega
  cases hd with
  | true =>
    obtain ⟨a, b⟩ := s.hd_last (by omega) rfl
    exact absurd h1.symm (ok.2 _ a b).1
  | false =>
    refine ⟨s.noDel rfl, ?_, s.head, s.noIns, fun h => by cases h⟩
    rw [take_snoc hp, s.take]
    simp only [pend]
    rw [ep]
    simp

theorem Split.insert (s : Split L k out hi ins hd del) (c : Canon L) (hp : L[k]? = some p) (h0 : p.1 ≠ 0) (h1 : p.1 ≠ 1) : hi = false ∧ ins = [] ∧ Split L (k + 1) out true p.2.2 hd del := by
  have hk : k < L.length := (List.getElem?_eq_some_iff.1 hp).1
  have ok := c.at hp
  have h2 : p.1 = 2 := by rcases ok.1 with ⟨h, _⟩ | ⟨h, _⟩ <;> omega
  have ep : p = (2, 0, p.2.2) := by
    rcases ok.1 with ⟨h, _⟩ | ⟨_, hn, _⟩
    · omega
    · obtain ⟨a, b, t⟩ := p; simp at h2 hn; subst h2; subst hn; rfl
  cases hd with
  | true =>
    obtain ⟨a, b⟩ := s.hd_last (by omega) rfl
    exact absurd ⟨rfl, h2⟩ (ok.2 _ a b).2
  | false =>
    cases hi with
    | true =>
      obtain ⟨a, b⟩ := s.hi_last (by omega) rfl rfl
      exact absurd h2.symm (ok.2 _ a b).1
    | false =>
      refine ⟨rfl, s.noIns rfl, ?_, s.head, (fun h => by cases h), s.noDel⟩
      rw [take_snoc hp, s.take]
      simp only [pend]
      rw [ep]
      simp

end

/-- Every canonical list has such a split. -/
theorem split_to (L : List Pt) (c : Canon L) : ∀ k, k ≤ L.length → ∃ out hi ins hd del, Split L k out hi ins hd del
  | 0, _ => ⟨_, _, _, _, _, Split.zero L⟩
  | k + 1, h => by
    obtain ⟨out, hi, ins, hd, del, s⟩ := split_to L c k (by omega)
    obtain ⟨p, hp⟩ : ∃ p, L[k]? = some p := ⟨L[k], List.getElem?_eq_getElem (by omega)⟩
    by_cases h0 : p.1 = 0
    · exact ⟨_, _, _, _, _, s.retain c hp h0⟩
    · by_cases h1 : p.1 = 1
      · exact ⟨_, _, _, _, _, (s.delete c hp h1).2⟩
      · exact ⟨_, _, _, _, _, (s.insert c hp h0 h1).2.2⟩

/-- What an insert of text leaves. -/
def after (out : List Pt) (ins text : List Int) (hd : Bool) (del : Int) : List Pt := out ++ [(2, 0, ins ++ text)] ++ (if hd then [(1, del, [])] else [])

/-- A part appended to a canonical list. -/
theorem Canon.snoc {L : List Pt} (c : Canon L) {p : Pt} (ok : OkPart p) (pair : ∀ o q, L = o ++ [q] → OkPair q p) : Canon (L ++ [p]) := by
  intro i p' hi hp'
  simp at hi
  by_cases e : i = L.length
  · subst e
    rw [List.getElem?_append_right (Nat.le_refl _)] at hp'
    simp at hp'
    subst hp'
    refine ⟨ok, fun q h0 hq => ?_⟩
    rw [List.getElem?_append_left (by omega)] at hq
    have hne : L ≠ [] := fun h => by simp [h] at h0
    refine pair (L.take (L.length - 1)) q ?_
    have := List.dropLast_concat_getLast hne
    rw [List.dropLast_eq_take] at this
    have el : L.getLast hne = q := by
      rw [List.getLast_eq_getElem hne]
      rw [List.getElem?_eq_getElem (by omega)] at hq
      injection hq with hq
    rw [el] at this
    exact this.symm
  · rw [List.getElem?_append_left (by omega)] at hp'
    obtain ⟨a, b⟩ := c i p' (by omega) hp'
    refine ⟨a, fun q h0 hq => b q h0 ?_⟩
    rw [List.getElem?_append_left (by omega)] at hq
    exact hq

theorem Canon.front {A B : List Pt} (c : Canon (A ++ B)) : Canon A := by
  intro i p hi hp
  have := c i p (by simp; omega) (by rw [List.getElem?_append_left hi]; exact hp)
  refine ⟨this.1, fun q h0 hq => this.2 q h0 ?_⟩
  rw [List.getElem?_append_left (by omega)]
  exact hq

/-- The part just ahead of the last one. -/
theorem Canon.pair_last {A : List Pt} {q p : Pt} (c : Canon (A ++ [q] ++ [p])) : OkPair q p := by
  have := c.at (i := A.length + 1) (p := p) (by simp)
  exact this.2 q (by omega) (by simp)

/-- WHAT AN INSERT LEAVES IS CANONICAL. -/
theorem after_canon {L : List Pt} (c : Canon L) {out : List Pt} {hi : Bool} {ins : List Int} {hd : Bool} {del : Int} (s : Split L L.length out hi ins hd del) {text : List Int} (ht : text ≠ []) : Canon (after out ins text hd del) := by
  have e : L = out ++ pend hi ins hd del := by rw [← s.take, List.take_length]
  have co : Canon out := by rw [e] at c; exact c.front
  have c1 : Canon (out ++ [(2, 0, ins ++ text)]) := by
    refine co.snoc (Or.inr ⟨rfl, rfl, by simp [ht]⟩) (fun o q hq => ?_)
    rcases s.head with h | ⟨o', p', h, h0⟩
    · rw [h] at hq; simp at hq
    · rw [h] at hq
      have := (List.append_inj' hq rfl).2
      simp at this
      subst this
      exact ⟨by omega, by omega⟩
  cases hd with
  | false => simpa [after] using c1
  | true =>
    have hdel : OkPart (1, del, []) := by
      have : L[L.length - 1]? = some (1, del, []) := (s.hd_last (Nat.le_refl _) rfl).2
      exact (c.at this).1
    have c2 : Canon (out ++ [(2, 0, ins ++ text)] ++ [(1, del, [])]) := by
      refine c1.snoc hdel (fun o q hq => ?_)
      have := (List.append_inj' hq rfl).2
      simp at this
      subst this
      exact ⟨by simp, by simp⟩
    simpa [after] using c2

end Go.Proofs.Qxb6602551a

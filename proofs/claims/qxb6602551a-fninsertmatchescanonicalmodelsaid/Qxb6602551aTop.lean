/-
  THE WALK of 'FnInsertMatchesCanonicalModel', out of its callees' contracts.
-/
import Derived.Test.Qxb6602551aModel
import Derived.Test.Qxb6602551aInsAll
import Derived.Test.Qxb6602551aIsCanon
import Derived.Laws.CopyOwn
namespace Go.Proofs.Qxb6602551a
open Go.RowKit

/-! ### plain: a split is the only one -/
theorem head_no {out A : List Pt} {q : Pt} (h : HeadOk out) (e : out = A ++ [q]) (hq : q.1 ≠ 0) : False := by
  rcases h with h | ⟨o, p, h, h0⟩
  · rw [h] at e; simp at e
  · rw [h] at e
    have := (List.append_inj' e rfl).2
    simp at this
    subst this
    exact hq h0

theorem split_one {L out out' : List Pt} {hi hi' hd hd' : Bool} {ins ins' : List Int} {del del' : Int} (s : Split L L.length out hi ins hd del) (s' : Split L L.length out' hi' ins' hd' del') : out = out' ∧ ins = ins' ∧ hd = hd' ∧ del = del' := by
  have e : out ++ pend hi ins hd del = out' ++ pend hi' ins' hd' del' := s.take.symm.trans s'.take
  have one : ∀ {A B : List Pt} {x y : Pt}, A ++ [x] = B ++ [y] → A = B ∧ x = y := fun h => by
    have := List.append_inj' h rfl
    exact ⟨this.1, by simpa using this.2⟩
  have two : ∀ {A B : List Pt} {x y : Pt}, A ++ [x, y] = A ++ [x] ++ [y] := fun {A B x y} => by simp
  cases hi <;> cases hd <;> cases hi' <;> cases hd' <;> simp only [pend, Bool.false_eq_true, if_false, if_true, List.append_nil, List.nil_append, List.cons_append] at e
  · exact ⟨e, (s.noIns rfl).trans (s'.noIns rfl).symm, rfl, (s.noDel rfl).trans (s'.noDel rfl).symm⟩
  · exact absurd (head_no s.head e (by simp)) id
  · exact absurd (head_no s.head e (by simp)) id
  · rw [two (B := [])] at e; exact absurd (head_no s.head e (by simp)) id
  · exact absurd (head_no s'.head e.symm (by simp)) id
  · obtain ⟨e1, e2⟩ := one e
    simp at e2
    exact ⟨e1, (s.noIns rfl).trans (s'.noIns rfl).symm, rfl, e2⟩
  · obtain ⟨_, e2⟩ := one e; simp at e2
  · rw [two (B := [])] at e; obtain ⟨e1, _⟩ := one e; exact absurd (head_no s.head e1 (by simp)) id
  · exact absurd (head_no s'.head e.symm (by simp)) id
  · obtain ⟨_, e2⟩ := one e; simp at e2
  · obtain ⟨e1, e2⟩ := one e
    simp at e2
    exact ⟨e1, e2, rfl, (s.noDel rfl).trans (s'.noDel rfl).symm⟩
  · rw [two (B := [])] at e; obtain ⟨_, e2⟩ := one e; simp at e2
  · rw [two (B := [])] at e; exact absurd (head_no s'.head e.symm (by simp)) id
  · rw [two (B := [])] at e; obtain ⟨e1, _⟩ := one e; exact absurd (head_no s'.head e1.symm (by simp)) id
  · rw [two (B := [])] at e; obtain ⟨_, e2⟩ := one e; simp at e2
  · rw [two (B := []), two (B := [])] at e
    obtain ⟨e1, e2⟩ := one e
    obtain ⟨e3, e4⟩ := one e1
    simp at e2 e4
    exact ⟨e3, e4, rfl, e2⟩

/-! ### what 'buildOp' has made -/
def OpState (B : Nat) (L : List Pt) (w : World) (bo : Nat) : Prop :=
  B ≤ bo ∧ ((L = [] ∧ ∃ a, w.heap[bo]? = some (.cells #[.slice a 0 0] 76 (0, 0))) ∨ ∃ ba F, B ≤ ba ∧ OpFull bo ba F L w)

def Built11 (L : List Pt) (w : World) (e : Ending) (w' : World) : Prop := ∃ bo, e = .returned (.pointer (some ⟨bo, 0, none⟩)) ∧ OpState w.heap.size L w' bo ∧ Below w.heap.size w w'

theorem buildOp_any (G H : Nat → Prop) (a : Option Addr) (c : Nat) (L : List Pt) (w : World) (hp : PartsAt G H w a L) (hl : L.length ≤ 4096) (hT : tot L ≤ 1048576) :
    Calls Try.prog 11 #[.slice a L.length c] w fun e w' => Built11 L w e w' := by
  cases a with
  | none =>
    have h0 : L = [] := by
      cases L with
      | nil => rfl
      | cons x r => obtain ⟨_, _, _, _, h, _⟩ := hp 0 x rfl; cases h
    subst h0
    refine (buildOp_nil c w).mono ?_
    rintro e w' ⟨rfl, rfl⟩
    exact ⟨w.heap.size, rfl, ⟨Nat.le_refl _, Or.inl ⟨rfl, none, Deep.blk_alloc_new _ _⟩⟩, (Below.refl _ _).alloc (Nat.le_refl _) _⟩
  | some ad =>
    refine (buildOp_some G H ad c L w hp hl hT).mono ?_
    rintro e w' ⟨bo, F, rfl, ho, hr, hL, hlt, hb⟩
    exact ⟨bo, rfl, ⟨by omega, Or.inr ⟨w.heap.size, F, Nat.le_refl _, ho, hr, Lists.carry hL (fun b h _ => ⟨h.2, by omega⟩) (fun _ _ _ => rfl), by omega⟩⟩, hb⟩

/-! ### insert -/
set_option maxHeartbeats 400000 in
theorem ins_nothing (bo : Nat) (a : Option Addr) (c : Nat) (w : World) :
    Calls Try.prog 27 #[.pointer (some ⟨bo, 0, none⟩), .slice a 0 c] w fun e w' => e = .returned (.tuple #[]) ∧ w = w' := by
  go_enter Try.func27, Try.ntmps27
  go_wp2_with fail
  exact bodyPost_ret (v := .tuple #[]) (by simp [results, Try.results27]) rfl ⟨rfl, rfl⟩

/-- What an insert of text makes of L. -/
def Res (L : List Pt) (text : List Int) (R : List Pt) : Prop := (text = [] ∧ R = L) ∨ (text ≠ [] ∧ ∃ out hi ins hd del, Split L L.length out hi ins hd del ∧ R = after out ins text hd del)

def Ins12 (B : Nat) (bo : Nat) (R : List Pt) (w : World) (e : Ending) (w' : World) : Prop := e = .returned (.tuple #[]) ∧ OpLists w' bo R ∧ Below B w w'

theorem only_below {B bo ba : Nat} {w w' : World} (h : Only (fun b => b = bo ∨ b = ba) w w') (h1 : B ≤ bo) (h2 : B ≤ ba) (hb : B ≤ w.heap.size) : Below B w w' := h.below hb (fun k hk => by omega)

theorem insert_state (B bo : Nat) (L : List Pt) (at' : Option Addr) (c : Nat) (text : List Int) (R : List Pt) (w : World) (s : OpState B L w bo) (hc : Canon L) (hlen : L.length ≤ 4096) (htot : tot L ≤ 1048576) (ht : TxtAt (fun b => b < B) w at' text) (hl : text.length ≤ 1048576) (hB : B ≤ w.heap.size) (hR : Res L text R) :
    Calls Try.prog 27 #[.pointer (some ⟨bo, 0, none⟩), .slice at' text.length c] w fun e w' => Ins12 B bo R w e w' := by
  obtain ⟨hbo, s⟩ := s
  rcases hR with ⟨rfl, rfl⟩ | ⟨h0, out, hi, ins, hd, del, sp, rfl⟩
  · refine (ins_nothing bo at' c w).mono ?_
    rintro e w' ⟨rfl, rfl⟩
    refine ⟨rfl, ?_, Below.refl _ _⟩
    rcases s with ⟨rfl, a, ho⟩ | ⟨ba, F, hba, s⟩
    · exact ⟨a, 0, (opCell ho).1, fun i p h => by simp at h⟩
    · exact ⟨some ⟨ba, 0, none⟩, R.length, (opCell s.op).1, (Lists.loose s.lists).parts s.row (Nat.le_refl _)⟩
  · obtain ⟨ad, had⟩ : ∃ ad, at' = some ad := by
      cases at' with
      | some x => exact ⟨x, rfl⟩
      | none =>
        cases text with
        | nil => exact absurd rfl h0
        | cons x r => obtain ⟨_, _, h, _⟩ := ht 0 x rfl; cases h
    subst had
    rcases s with ⟨rfl, a, ho⟩ | ⟨ba, F, hba, s⟩
    · have s1 : out = [] ∧ ins = [] ∧ hd = false := by
        have := split_one sp (Split.zero [])
        exact ⟨this.1, this.2.1, this.2.2.1⟩
      obtain ⟨rfl, rfl, rfl⟩ := s1
      have e : after [] [] text false del = [(2, 0, text)] := by simp [after]
      rw [e]
      refine (insert_empty bo a ho ht h0 (by omega)).mono ?_
      rintro e w' ⟨he, h1, h2⟩
      exact ⟨he, h1, only_below h2 hbo hbo hB⟩
    · refine (insert_full s sp hlen htot ht (fun b hb => by omega) h0 (by omega)).mono ?_
      rintro e w' ⟨he, h1, h2⟩
      exact ⟨he, h1, only_below h2 hbo hba hB⟩

set_option maxHeartbeats 400000 in
theorem zzInsert_any (B bo : Nat) (L : List Pt) (at' : Option Addr) (c : Nat) (text : List Int) (R : List Pt) (w : World) (s : OpState B L w bo) (hc : Canon L) (hlen : L.length ≤ 4096) (htot : tot L ≤ 1048576) (ht : TxtAt (fun b => b < B) w at' text) (hl : text.length ≤ 1048576) (hB : B ≤ w.heap.size) (hR : Res L text R) :
    Calls Try.prog 12 #[.pointer (some ⟨bo, 0, none⟩), .slice at' text.length c] w fun e w' => Ins12 B bo R w e w' := by
  have h : Hid (Calls Try.prog 27 #[.pointer (some ⟨bo, 0, none⟩), .slice at' text.length c] w fun e w' => Ins12 B bo R w e w') := insert_state B bo L at' c text R w s hc hlen htot ht hl hB hR
  clear s hc hlen htot ht hl hB hR
  go_enter Try.func12, Try.ntmps12
  go_wp2_with fail
  refine Calls.mono h.out ?_
  rintro e w' ⟨rfl, h1, h2⟩
  have H1 : Hid (OpLists w' bo R) := h1
  have H2 : Hid (Below B w w') := h2
  clear h1 h2
  go_wp2_with fail
  go_end0
  exact ⟨rfl, H1.out, H2.out⟩

/-! ### the result: its size, its form -/
theorem res_exists (L : List Pt) (text : List Int) (hc : Canon L) : ∃ R, Res L text R := by
  by_cases h : text = []
  · exact ⟨L, Or.inl ⟨h, rfl⟩⟩
  · obtain ⟨out, hi, ins, hd, del, s⟩ := split_to L hc L.length (Nat.le_refl _)
    exact ⟨_, Or.inr ⟨h, out, hi, ins, hd, del, s, rfl⟩⟩

theorem res_one {L R R' : List Pt} {text : List Int} (h : Res L text R) (h' : Res L text R') : R = R' := by
  rcases h with ⟨e, rfl⟩ | ⟨e, out, hi, ins, hd, del, s, rfl⟩ <;> rcases h' with ⟨e', rfl⟩ | ⟨e', out', hi', ins', hd', del', s', rfl⟩
  · rfl
  · exact absurd e e'
  · exact absurd e' e
  · obtain ⟨rfl, rfl, rfl, rfl⟩ := split_one s s'; rfl

theorem res_canon {L R : List Pt} {text : List Int} (h : Res L text R) (hc : Canon L) : Canon R := by
  rcases h with ⟨_, rfl⟩ | ⟨e, out, hi, ins, hd, del, s, rfl⟩
  · exact hc
  · exact after_canon hc s e

theorem res_size {L R : List Pt} {text : List Int} (h : Res L text R) : R.length ≤ L.length + 2 ∧ ∀ (i : Nat) (p : Pt), R[i]? = some p → p.2.2.length ≤ tot L + text.length := by
  rcases h with ⟨_, rfl⟩ | ⟨e, out, hi, ins, hd, del, s, rfl⟩
  · exact ⟨by omega, fun i p hp => by have := text_le hp; omega⟩
  · have eL : L = out ++ pend hi ins hd del := by rw [← s.take, List.take_length]
    have h1 : out.length ≤ L.length := by rw [eL]; simp
    have h2 := Stands.len (text := ([] : List Int)) (Or.inl ⟨Nat.le_refl _, s⟩)
    have h3 : ∀ (i : Nat) (p : Pt), out[i]? = some p → p.2.2.length ≤ tot L := fun i p hp => text_le (L := L) (k := i) (by rw [eL, List.getElem?_append_left (List.getElem?_eq_some_iff.1 hp).1]; exact hp)
    refine ⟨by cases hd <;> simp [after] <;> omega, fun i p hp => ?_⟩
    have hm : p ∈ after out ins text hd del := List.mem_of_getElem? hp
    have hm' : p ∈ out ∨ p = (2, 0, ins ++ text) ∨ p = (1, del, []) := by
      cases hd
      · simp [after] at hm; rcases hm with h | h
        · exact Or.inl h
        · exact Or.inr (Or.inl h)
      · simpa [after] using hm
    rcases hm' with h | h | h
    · obtain ⟨j, hj⟩ := List.mem_iff_getElem?.1 h
      have := h3 j p hj; omega
    · rw [h]; simp at h2 ⊢; omega
    · rw [h]; simp
end Go.Proofs.Qxb6602551a

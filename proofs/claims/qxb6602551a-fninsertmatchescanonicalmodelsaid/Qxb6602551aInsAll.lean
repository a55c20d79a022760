/-
  WHAT 'insert' LEAVES, at every operation in canonical form: out of its four ways.
-/
import Derived.Test.Qxb6602551aIns
namespace Go.Proofs.Qxb6602551a
open Go.RowKit

/-- What the cells of an array of parts list, the texts' capacities whatever they are. -/
def ListsL (G : Nat → Prop) (w : World) (F : Nat → Value) (L : List Pt) : Prop :=
  ∀ i p, L[i]? = some p → F (i * 3) = .int .i64 p.1 ∧ F (i * 3 + 1) = .int .i64 p.2.1 ∧ ∃ ta tc, F (i * 3 + 2) = .slice ta p.2.2.length tc ∧ TxtAt G w ta p.2.2

theorem Lists.loose {G : Nat → Prop} {w : World} {F : Nat → Value} {L : List Pt} (h : Lists G w F L) : ListsL G w F L := fun i p hp => by
  obtain ⟨a, b, ta, c, d⟩ := h i p hp
  exact ⟨a, b, ta, _, c, d⟩

theorem ListsL.carry {G G' : Nat → Prop} {w w' : World} {F : Nat → Value} {L : List Pt} (h : ListsL G w F L) (hG : ∀ b, G b → b < w.heap.size → G' b) (hk : ∀ b, G b → b < w.heap.size → w'.heap[b]? = w.heap[b]?) : ListsL G' w' F L := by
  intro i p hp
  obtain ⟨a, b, ta, tc, c, d⟩ := h i p hp
  exact ⟨a, b, ta, tc, c, TxtAt.carry' d hG hk⟩

theorem ListsL.first {G : Nat → Prop} {w : World} {F : Nat → Value} {A B : List Pt} (h : ListsL G w F (A ++ B)) : ListsL G w F A := fun i p hp => by
  have hi : i < A.length := (List.getElem?_eq_some_iff.1 hp).1
  exact h i p (by rw [List.getElem?_append_left hi]; exact hp)

theorem ListsL.same {G : Nat → Prop} {w : World} {F F' : Nat → Value} {L : List Pt} (h : ListsL G w F L) (e : ∀ j, j < L.length * 3 → F' j = F j) : ListsL G w F' L := fun i p hp => by
  have hi : i < L.length := (List.getElem?_eq_some_iff.1 hp).1
  obtain ⟨a, b, ta, tc, c, d⟩ := h i p hp
  exact ⟨by rw [e _ (by omega)]; exact a, by rw [e _ (by omega)]; exact b, ta, tc, by rw [e _ (by omega)]; exact c, d⟩

theorem ListsL.snoc {G : Nat → Prop} {w : World} {F : Nat → Value} {L : List Pt} (h : ListsL G w F L) {p : Pt} {ta : Option Addr} {tc : Nat} (ha : F (L.length * 3) = .int .i64 p.1) (hb : F (L.length * 3 + 1) = .int .i64 p.2.1)
    (hc : F (L.length * 3 + 2) = .slice ta p.2.2.length tc) (ht : TxtAt G w ta p.2.2) : ListsL G w F (L ++ [p]) := by
  intro i q hq
  by_cases e : i < L.length
  · rw [List.getElem?_append_left e] at hq
    exact h i q hq
  · have hi : i < (L ++ [p]).length := (List.getElem?_eq_some_iff.1 hq).1
    simp at hi
    obtain rfl : i = L.length := by omega
    rw [List.getElem?_append_right (Nat.le_refl _)] at hq
    simp at hq
    subst hq
    exact ⟨ha, hb, ta, tc, hc, ht⟩

theorem ListsL.put {G : Nat → Prop} {w : World} {F : Nat → Value} {L : List Pt} (h : ListsL G w F L) {p : Pt} {ta : Option Addr} {tc : Nat} (ht : TxtAt G w ta p.2.2) :
    ListsL G w (put3 F L.length (.int .i64 p.1) (.int .i64 p.2.1) (.slice ta p.2.2.length tc)) (L ++ [p]) := by
  have h' : ListsL G w (put3 F L.length (.int .i64 p.1) (.int .i64 p.2.1) (.slice ta p.2.2.length tc)) L := h.same (fun j hj => by
    rw [put3, if_neg (by omega), if_neg (by omega), if_neg (by omega)])
  refine h'.snoc (tc := tc) ?_ ?_ ?_ ht
  · rw [put3, if_neg (by omega), if_neg (by omega), if_pos rfl]
  · rw [put3, if_neg (by omega), if_pos rfl]
  · rw [put3, if_pos rfl]

theorem ListsL.parts {G : Nat → Prop} {w : World} {F : Nat → Value} {L : List Pt} {B e N : Nat} (h : ListsL G w F L) (hr : w.rowIs B e N F) (hN : L.length * 3 ≤ N) : PartsAt (fun _ => True) (fun _ => True) w (some ⟨B, 0, none⟩) L := by
  intro i p hp
  have hi : i < L.length := (List.getElem?_eq_some_iff.1 hp).1
  obtain ⟨a, b, ta, tc, c, d⟩ := h i p hp
  refine ⟨B, 0, ta, tc, rfl, trivial, ?_, ?_, ?_, d.carry (fun _ _ => trivial) (fun _ _ _ => rfl)⟩
  · rw [Nat.zero_add, hr.cell (by omega), a]
  · rw [Nat.zero_add, hr.cell (by omega), b]
  · rw [Nat.zero_add, hr.cell (by omega), c]

/-- An operation that lists L. -/
def OpLists (w : World) (bo : Nat) (L : List Pt) : Prop := ∃ a cap, w.cell? ⟨bo, 0, none⟩ = some (.slice a L.length cap) ∧ PartsAt (fun _ => True) (fun _ => True) w a L

/-- 'add' has laid a new array. -/
theorem added_parts {G : Nat → Prop} {bo n : Nat} {p : Pt} {ta : Option Addr} {tc : Nat} {F : Nat → Value} {L : List Pt} {w w' : World} {e : Ending} (h : AddedNew bo n p.1 p.2.1 ta p.2.2.length tc F w e w') (hn : n = L.length) (hL : ListsL G w F L) (hG : ∀ b, G b → b ≠ bo)
    (ht : TxtAt G w ta p.2.2) : OpLists w' bo (L ++ [p]) ∧ Only (fun b => b = bo) w w' := by
  subst hn
  obtain ⟨_, g, cap, F', _, hc, ho, hr, eF, on⟩ := h
  refine ⟨⟨some ⟨g, 0, none⟩, cap, by rw [(opCell ho).1]; simp, ?_⟩, on⟩
  have l1 : ListsL G w' F' L := (hL.same eF).carry (fun _ h _ => h) (fun b hb hl => on.block b hl (hG b hb))
  exact (l1.put (TxtAt.carry ht (fun _ h => h) (fun b hb hl => on.block b hl (hG b hb)))).parts hr (by simp; omega)


theorem only_of_below {S : Nat → Prop} {w w' : World} (h : Below w.heap.size w w') : Only S w w' := ⟨h.os, h.tape, h.output, h.size, fun k hk _ => h.block k hk⟩

/-- What 'insert' is handed: an operation as 'buildOp' has made it, its array full, its texts without spare room. -/
structure OpFull (bo ba : Nat) (F : Nat → Value) (L : List Pt) (w : World) : Prop where
  op : w.heap[bo]? = some (.cells #[.slice (some ⟨ba, 0, none⟩) L.length L.length] 76 (0, 0))
  row : w.rowIs ba 60 (L.length * 3) F
  lists : Lists (fun b => b ≠ bo ∧ b ≠ ba) w F L
  ne : ba ≠ bo

def Inserted (bo ba : Nat) (L' : List Pt) (w : World) (e : Ending) (w' : World) : Prop := e = .returned (.tuple #[]) ∧ OpLists w' bo L' ∧ Only (fun b => b = bo ∨ b = ba) w w'

section
variable {bo ba : Nat} {F : Nat → Value} {w : World} {ad : Addr} {c : Nat} {t : List Int}

/-- WAY 1: nothing at all stands there. -/
theorem insert_empty (ba : Nat) (a : Option Addr) (ho : w.heap[bo]? = some (.cells #[.slice a 0 0] 76 (0, 0))) {Gt : Nat → Prop} (ht : TxtAt Gt w (some ad) t) (h0 : t ≠ []) (hl : t.length ≤ 2000000) :
    Calls Try.prog 27 #[.pointer (some ⟨bo, 0, none⟩), .slice (some ad) t.length c] w fun e w' => Inserted bo ba [(2, 0, t)] w e w' := by
  have hbo : bo < w.heap.size := (Array.getElem?_eq_some_iff.1 ho).1
  refine (ins_none Gt bo a 0 ad c t w (fun g tc w1 w' => AddedNew bo 0 2 0 (some ⟨g, 0, none⟩) t.length tc (fun _ => undef) w1 (.returned (.tuple #[])) w') (opCell ho).1 ht h0 hl ?_).mono ?_
  · intro g tc w1 hg t1 b1
    refine (add_empty bo a 2 0 (some ⟨g, 0, none⟩) t.length tc (fun _ => undef) w1 (by rw [b1.block _ hbo]; exact ho)).mono ?_
    rintro e w' h
    have := h.1
    subst this
    exact ⟨rfl, h⟩
  · rintro e w' ⟨he, g, tc, w1, hg, t1, b1, h⟩
    obtain ⟨h1, h2⟩ := added_parts (G := fun b => b = g) (p := (2, 0, t)) (L := []) h rfl (fun i p h => by simp at h) (fun b hb => by omega) t1
    exact ⟨he, h1, (only_of_below b1).trans' (h2.weaken (fun _ _ h => Or.inl h)) (fun _ _ h => h)⟩

/-- WAY 2: a kept run is the last part. -/
theorem insert_retain {o : List Pt} {p : Pt} (s : OpFull bo ba F (o ++ [p]) w) (hp : p.1 = 0) (hlen : o.length ≤ 5000) {Gt : Nat → Prop} (ht : TxtAt Gt w (some ad) t) (h0 : t ≠ []) (hl : t.length ≤ 2000000) :
    Calls Try.prog 27 #[.pointer (some ⟨bo, 0, none⟩), .slice (some ad) t.length c] w fun e w' => Inserted bo ba (o ++ [p] ++ [(2, 0, t)]) w e w' := by
  have hbo : bo < w.heap.size := (Array.getElem?_eq_some_iff.1 s.op).1
  have hba := s.row.lt
  have eL : (o ++ [p]).length = o.length + 1 := by simp
  have hop := s.op
  have hrow := s.row
  rw [eL] at hop hrow
  have hk : w.cell? ⟨ba, o.length * 3, none⟩ = some (.int .i64 0) := by
    rw [hrow.cell (by omega), (s.lists o.length p (by simp)).1, hp]
  refine (ins_retain Gt bo ba o.length (o.length + 1) ad c t w (fun g tc w1 w' => AddedNew bo (o.length + 1) 2 0 (some ⟨g, 0, none⟩) t.length tc F w1 (.returned (.tuple #[])) w') (opCell hop).1 hk (by omega) ht h0 hl ?_).mono ?_
  · intro g tc w1 hg t1 b1
    refine (add_full bo ba (o.length + 1) 2 0 (some ⟨g, 0, none⟩) t.length tc F w1 (by rw [b1.block _ hbo]; exact hop) (hrow.of_block (b1.block _ hba)) (by omega) (by omega)).mono ?_
    rintro e w' h
    have := h.1
    subst this
    exact ⟨rfl, h⟩
  · rintro e w' ⟨he, g, tc, w1, hg, t1, b1, h⟩
    have l1 : ListsL (fun b => b ≠ bo ∧ b ≠ ba) w1 F (o ++ [p]) := s.lists.loose.carry (fun _ h _ => h) (fun b _ hl => b1.block b hl)
    obtain ⟨h1, h2⟩ := added_parts (G := fun b => b ≠ bo ∧ b ≠ ba) (p := (2, 0, t)) (L := o ++ [p]) h eL.symm l1 (fun b hb => hb.1) (TxtAt.carry t1 (fun b hb => ⟨by omega, by omega⟩) (fun _ _ _ => rfl))
    exact ⟨he, h1, (only_of_below b1).trans' (h2.weaken (fun _ _ h => Or.inl h)) (fun _ _ h => h)⟩

/-- WAY 3: an insert is the last part. -/
theorem insert_join {o : List Pt} {t0 : List Int} (s : OpFull bo ba F (o ++ [(2, 0, t0)]) w) (hlen : o.length ≤ 5000) {Gt : Nat → Prop} (ht : TxtAt Gt w (some ad) t) (h0 : t ≠ []) (hl : t.length ≤ 2000000) (hl0 : t0.length ≤ 2000000) :
    Calls Try.prog 27 #[.pointer (some ⟨bo, 0, none⟩), .slice (some ad) t.length c] w fun e w' => Inserted bo ba (o ++ [(2, 0, t0 ++ t)]) w e w' := by
  have hbo : bo < w.heap.size := (Array.getElem?_eq_some_iff.1 s.op).1
  have hba := s.row.lt
  have eL : (o ++ [((2 : Int), (0 : Int), t0)]).length = o.length + 1 := by simp
  have hop := s.op
  have hrow := s.row
  rw [eL] at hop hrow
  obtain ⟨q1, q2, ta, q3, q4⟩ := s.lists o.length (2, 0, t0) (by simp)
  refine (ins_insert Gt (fun b => b ≠ bo ∧ b ≠ ba) bo ba o.length (o.length + 1) ((o.length + 1) * 3) F ta t0 ad c t w hop hrow (by omega) q1 q3 q4 s.ne (by omega) ht h0 hl hl0).mono ?_
  rintro e w' ⟨he, g, tc, hg, ho', hr', tx', on⟩
  refine ⟨he, ⟨some ⟨ba, 0, none⟩, o.length + 1, by rw [(opCell ho').1]; simp, ?_⟩, on.weaken (fun _ _ h => Or.inr h)⟩
  have l1 : ListsL (fun b => b ≠ bo ∧ b ≠ ba) w' F o := (ListsL.first s.lists.loose).carry (fun _ h _ => h) (fun b hb hl => on.block b hl hb.2)
  have l2 : ListsL (fun b => b ≠ bo ∧ b ≠ ba) w' (fun j => if j = o.length * 3 + 2 then .slice (some ⟨g, 0, none⟩) (t0.length + t.length) tc else F j) (o ++ [(2, 0, t0 ++ t)]) := by
    refine (l1.same (fun j hj => if_neg (by omega))).snoc (p := (2, 0, t0 ++ t)) (ta := some ⟨g, 0, none⟩) (tc := tc) ?_ ?_ ?_ ?_
    · rw [if_neg (by omega)]; exact q1
    · rw [if_neg (by omega)]; exact q2
    · rw [if_pos rfl]; simp
    · exact TxtAt.carry tx' (fun b hb => ⟨by omega, by omega⟩) (fun _ _ _ => rfl)
  exact l2.parts hr' (by simp)

theorem row_one {w : World} {b e n : Nat} {f g : Nat → Value} (h : w.rowIs b e n f) (h' : w.rowIs b e n g) : ∀ i, i < n → f i = g i := fun i hi => by
  have := (h.cell hi).symm.trans (h'.cell hi)
  injection this

/-- The insert ahead of a delete: a new part in the delete's place. -/
def InsRoom (bo ba m : Nat) (F : Nat → Value) (t : List Int) (W w1 : World) : Prop :=
  ∃ g tc, W.heap.size ≤ g ∧ w1.heap[bo]? = some (.cells #[.slice (some ⟨ba, 0, none⟩) (m + 1) (m + 1)] 76 (0, 0)) ∧ w1.rowIs ba 60 ((m + 1) * 3) (put3 F m (.int .i64 2) (.int .i64 0) (.slice (some ⟨g, 0, none⟩) t.length tc)) ∧
    TxtAt (fun b => b = g) w1 (some ⟨g, 0, none⟩) t ∧ Only (fun b => b = bo ∨ b = ba) W w1

theorem insRoom_of {m : Nat} {W w1 w2 : World} {g tc : Nat} (hop : W.heap[bo]? = some (.cells #[.slice (some ⟨ba, 0, none⟩) m (m + 1)] 76 (0, 0))) (hrow : W.rowIs ba 60 ((m + 1) * 3) F) (hg : W.heap.size ≤ g) (t1 : TxtAt (fun b => b = g) w1 (some ⟨g, 0, none⟩) t) (b1 : Below W.heap.size W w1)
    (h1 : w2.heap[bo]? = some (.cells #[.slice (some ⟨ba, 0, none⟩) (m + 1) (m + 1)] 76 (0, 0))) (h2 : w2.rowIs ba 60 ((m + 1) * 3) (put3 F m (.int .i64 2) (.int .i64 0) (.slice (some ⟨g, 0, none⟩) t.length tc))) (h3 : Only (fun b => b = bo ∨ b = ba) w1 w2) :
    InsRoom bo ba m F t W w2 := by
  have hbo : bo < W.heap.size := (Array.getElem?_eq_some_iff.1 hop).1
  have hba := hrow.lt
  exact ⟨g, tc, hg, h1, h2, TxtAt.carry t1 (fun _ h => h) (fun b hb hl => h3.block b hl (by omega)), (only_of_below b1).trans h3⟩

/-- .. behind an empty head. -/
theorem room_none {W : World} (hop : W.heap[bo]? = some (.cells #[.slice (some ⟨ba, 0, none⟩) 0 (0 + 1)] 76 (0, 0))) (hrow : W.rowIs ba 60 ((0 + 1) * 3) F) (hne : ba ≠ bo) {Gt : Nat → Prop} (ht : TxtAt Gt W (some ad) t) (h0 : t ≠ []) (hl : t.length ≤ 2000000) :
    Calls Try.prog 27 #[.pointer (some ⟨bo, 0, none⟩), .slice (some ad) t.length c] W fun e w' => e = .returned (.tuple #[]) ∧ InsRoom bo ba 0 F t W w' := by
  have hbo : bo < W.heap.size := (Array.getElem?_eq_some_iff.1 hop).1
  have hba := hrow.lt
  refine (ins_none Gt bo (some ⟨ba, 0, none⟩) (0 + 1) ad c t W (fun g tc w1 w2 => w2.heap[bo]? = some (.cells #[.slice (some ⟨ba, 0, none⟩) (0 + 1) (0 + 1)] 76 (0, 0)) ∧ w2.rowIs ba 60 ((0 + 1) * 3) (put3 F 0 (.int .i64 2) (.int .i64 0) (.slice (some ⟨g, 0, none⟩) t.length tc)) ∧ Only (fun b => b = bo ∨ b = ba) w1 w2) (opCell hop).1 ht h0 hl ?_).mono ?_
  · intro g tc w1 hg t1 b1
    exact add_room bo ba 0 (0 + 1) 2 0 (some ⟨g, 0, none⟩) t.length tc F w1 (by rw [b1.block _ hbo]; exact hop) (hrow.of_block (b1.block _ hba)) (by omega) (by omega) hne
  · rintro e w' ⟨he, g, tc, w1, hg, t1, b1, h1, h2, h3⟩
    exact ⟨he, insRoom_of hop hrow hg t1 b1 h1 h2 h3⟩

/-- .. behind a kept run. -/
theorem room_retain {W : World} {m : Nat} (hop : W.heap[bo]? = some (.cells #[.slice (some ⟨ba, 0, none⟩) (m + 1) (m + 1 + 1)] 76 (0, 0))) (hrow : W.rowIs ba 60 ((m + 1 + 1) * 3) F) (hk : F (m * 3) = .int .i64 0) (hm : m ≤ 5000) (hne : ba ≠ bo) {Gt : Nat → Prop} (ht : TxtAt Gt W (some ad) t) (h0 : t ≠ []) (hl : t.length ≤ 2000000) :
    Calls Try.prog 27 #[.pointer (some ⟨bo, 0, none⟩), .slice (some ad) t.length c] W fun e w' => e = .returned (.tuple #[]) ∧ InsRoom bo ba (m + 1) F t W w' := by
  have hbo : bo < W.heap.size := (Array.getElem?_eq_some_iff.1 hop).1
  have hba := hrow.lt
  refine (ins_retain Gt bo ba m (m + 1 + 1) ad c t W (fun g tc w1 w2 => w2.heap[bo]? = some (.cells #[.slice (some ⟨ba, 0, none⟩) (m + 1 + 1) (m + 1 + 1)] 76 (0, 0)) ∧ w2.rowIs ba 60 ((m + 1 + 1) * 3) (put3 F (m + 1) (.int .i64 2) (.int .i64 0) (.slice (some ⟨g, 0, none⟩) t.length tc)) ∧ Only (fun b => b = bo ∨ b = ba) w1 w2) (opCell hop).1 (by rw [hrow.cell (by omega), hk]) (by omega) ht h0 hl ?_).mono ?_
  · intro g tc w1 hg t1 b1
    exact add_room bo ba (m + 1) (m + 1 + 1) 2 0 (some ⟨g, 0, none⟩) t.length tc F w1 (by rw [b1.block _ hbo]; exact hop) (hrow.of_block (b1.block _ hba)) (by omega) (by omega) hne
  · rintro e w' ⟨he, g, tc, w1, hg, t1, b1, h1, h2, h3⟩
    exact ⟨he, insRoom_of hop hrow hg t1 b1 h1 h2 h3⟩

/-- WAY 4: a delete is the last part; no insert stands ahead of it. -/
theorem insert_ahead {out : List Pt} {del : Int} (s : OpFull bo ba F (out ++ [(1, del, [])]) w) (hh : HeadOk out) (hlen : out.length ≤ 5000) {Gt : Nat → Prop} (ht : TxtAt Gt w (some ad) t) (hGt : ∀ b, Gt b → b ≠ bo) (h0 : t ≠ []) (hl : t.length ≤ 2000000) :
    Calls Try.prog 27 #[.pointer (some ⟨bo, 0, none⟩), .slice (some ad) t.length c] w fun e w' => Inserted bo ba (out ++ [(2, 0, t)] ++ [(1, del, [])]) w e w' := by
  have hbo : bo < w.heap.size := (Array.getElem?_eq_some_iff.1 s.op).1
  have hba := s.row.lt
  have hp := List.length_pos_iff.2 h0
  have eL : (out ++ [((1 : Int), del, ([] : List Int))]).length = out.length + 1 := by simp
  have hop := s.op
  have hrow := s.row
  rw [eL] at hop hrow
  obtain ⟨q1, q2, td, q3, _⟩ := s.lists out.length (1, del, []) (by simp)
  refine (ins_delete bo ba out.length (out.length + 1) ((out.length + 1) * 3) F del td 0 0 ad t.length c w (InsRoom bo ba out.length F t)
    (fun w1 w2 => ∃ F1, w1.rowIs ba 60 ((out.length + 1) * 3) F1 ∧ AddedNew bo (out.length + 1) 1 del td 0 0 F1 w1 (.returned (.tuple #[])) w2) hop hrow (by omega) (by omega) q1 q2 q3 s.ne (by omega) hp hl ?_ ?_ ?_).mono ?_
  · intro W hc
    have ht' : TxtAt Gt W (some ad) t := TxtAt.carry ht (fun _ h => h) (fun b hb hl => hc.only.block b hl (hGt b hb))
    have hcop := hc.op
    have hcrow := hc.row
    rcases hh with e | ⟨o', p', e, hp0⟩
    · subst e
      exact room_none hcop hcrow s.ne ht' h0 hl
    · have eo : out.length = o'.length + 1 := by rw [e]; simp
      have hk : F (o'.length * 3) = .int .i64 0 := by
        have := (s.lists o'.length p' (by rw [e]; simp)).1
        rw [this, hp0]
      rw [eo] at hcop hcrow ⊢
      exact room_retain hcop hcrow hk (by omega) s.ne ht' h0 hl
  · rintro W w1 hc ⟨g, tc, hg, h1, h2, h3, h4⟩
    exact h4
  · rintro W w1 hc ⟨g, tc, hg, h1, h2, h3, h4⟩
    refine (add_full bo ba (out.length + 1) 1 del td 0 0 _ w1 h1 h2 (by omega) (by omega)).mono ?_
    rintro e w' h
    have := h.1
    subst this
    exact ⟨rfl, _, h2, h⟩
  · rintro e w' ⟨he, W, w1, hc, ⟨g, tc, hg, h1, h2, h3, h4⟩, F1, hr1, hadd⟩
    have hsW := hc.only.size
    have l0 : ListsL (fun b => b ≠ bo ∧ b ≠ ba) w1 F out := ((ListsL.first s.lists.loose).carry (fun _ h _ => h) (fun b hb hl => hc.only.block b hl hb.1)).carry (fun _ h _ => h) (fun b hb hl => h4.block b hl (by omega))
    have l1 : ListsL (fun b => b ≠ bo ∧ b ≠ ba) w1 (put3 F out.length (.int .i64 2) (.int .i64 0) (.slice (some ⟨g, 0, none⟩) t.length tc)) (out ++ [(2, 0, t)]) :=
      l0.put (p := (2, 0, t)) (TxtAt.carry h3 (fun b hb => ⟨by omega, by omega⟩) (fun _ _ _ => rfl))
    have l2 : ListsL (fun b => b ≠ bo ∧ b ≠ ba) w1 F1 (out ++ [(2, 0, t)]) := l1.same (fun j hj => row_one hr1 h2 j (by simp at hj; omega))
    obtain ⟨g1, g2⟩ := added_parts (G := fun b => b ≠ bo ∧ b ≠ ba) (p := (1, del, [])) (L := out ++ [(2, 0, t)]) hadd (by simp) l2 (fun b hb => hb.1) (fun i u hu => by simp at hu)
    exact ⟨he, g1, ((hc.only.weaken (fun _ _ h => Or.inl h)).trans h4).trans (g2.weaken (fun _ _ h => Or.inl h))⟩

/-- WAY 5: a delete is the last part, an insert stands ahead of it. -/
theorem insert_join_ahead {out : List Pt} {t0 : List Int} {del : Int} (s : OpFull bo ba F (out ++ [(2, 0, t0)] ++ [(1, del, [])]) w) (hlen : out.length ≤ 5000) {Gt : Nat → Prop} (ht : TxtAt Gt w (some ad) t) (hGt : ∀ b, Gt b → b ≠ bo) (h0 : t ≠ []) (hl : t.length ≤ 2000000) (hl0 : t0.length ≤ 2000000) :
    Calls Try.prog 27 #[.pointer (some ⟨bo, 0, none⟩), .slice (some ad) t.length c] w fun e w' => Inserted bo ba (out ++ [(2, 0, t0 ++ t)] ++ [(1, del, [])]) w e w' := by
  have hbo : bo < w.heap.size := (Array.getElem?_eq_some_iff.1 s.op).1
  have hba := s.row.lt
  have hp := List.length_pos_iff.2 h0
  have eL : (out ++ [((2 : Int), (0 : Int), t0)] ++ [((1 : Int), del, ([] : List Int))]).length = out.length + 1 + 1 := by simp
  have hop := s.op
  have hrow := s.row
  rw [eL] at hop hrow
  obtain ⟨q1, q2, td, q3, _⟩ := s.lists (out.length + 1) (1, del, []) (by simp)
  obtain ⟨p1, p2, ta, p3, p4⟩ := s.lists out.length (2, 0, t0) (by simp)
  refine (ins_delete bo ba (out.length + 1) (out.length + 1 + 1) ((out.length + 1 + 1) * 3) F del td 0 0 ad t.length c w (fun W w1 => InsJoined bo ba out.length (out.length + 1 + 1) ((out.length + 1 + 1) * 3) F t0 t W (.returned (.tuple #[])) w1)
    (fun w1 w2 => ∃ F1, w1.rowIs ba 60 ((out.length + 1 + 1) * 3) F1 ∧ w2.heap[bo]? = some (.cells #[.slice (some ⟨ba, 0, none⟩) (out.length + 1 + 1) (out.length + 1 + 1)] 76 (0, 0)) ∧
      w2.rowIs ba 60 ((out.length + 1 + 1) * 3) (put3 F1 (out.length + 1) (.int .i64 1) (.int .i64 del) (.slice td 0 0)) ∧ Only (fun b => b = bo ∨ b = ba) w1 w2) hop hrow (by omega) (by omega) q1 q2 q3 s.ne (by omega) hp hl ?_ ?_ ?_).mono ?_
  · intro W hc
    have ht' : TxtAt Gt W (some ad) t := TxtAt.carry ht (fun _ h => h) (fun b hb hl => hc.only.block b hl (hGt b hb))
    have p4' : TxtAt (fun b => b ≠ bo ∧ b ≠ ba) W ta t0 := TxtAt.carry p4 (fun _ h => h) (fun b hb hl => hc.only.block b hl hb.1)
    refine (ins_insert Gt (fun b => b ≠ bo ∧ b ≠ ba) bo ba out.length (out.length + 1 + 1) ((out.length + 1 + 1) * 3) F ta t0 ad c t W hc.op hc.row (by omega) p1 p3 p4' s.ne (by omega) ht' h0 hl hl0).mono ?_
    rintro e w1 h
    have := h.1
    subst this
    exact ⟨rfl, h⟩
  · rintro W w1 hc ⟨_, g, tc, hg, h1, h2, h3, h4⟩
    exact h4.weaken (fun _ _ h => Or.inr h)
  · rintro W w1 hc ⟨_, g, tc, hg, h1, h2, h3, h4⟩
    refine (add_room bo ba (out.length + 1) (out.length + 1 + 1) 1 del td 0 0 _ w1 h1 h2 (by omega) (by omega) s.ne).mono ?_
    rintro e w' ⟨he, k1, k2, k3⟩
    exact ⟨he, _, h2, k1, k2, k3⟩
  · rintro e w' ⟨he, W, w1, hc, ⟨_, g, tc, hg, h1, h2, h3, h4⟩, F1, hr1, k1, k2, k3⟩
    have hsW := hc.only.size
    have l0 : ListsL (fun b => b ≠ bo ∧ b ≠ ba) w1 F out := ((ListsL.first (ListsL.first s.lists.loose)).carry (fun _ h _ => h) (fun b hb hl => hc.only.block b hl hb.1)).carry (fun _ h _ => h) (fun b hb hl => h4.block b hl hb.2)
    have l1 : ListsL (fun b => b ≠ bo ∧ b ≠ ba) w1 (fun j => if j = out.length * 3 + 2 then .slice (some ⟨g, 0, none⟩) (t0.length + t.length) tc else F j) (out ++ [(2, 0, t0 ++ t)]) := by
      refine (l0.same (fun j hj => if_neg (by omega))).snoc (p := (2, 0, t0 ++ t)) (ta := some ⟨g, 0, none⟩) (tc := tc) ?_ ?_ ?_ ?_
      · rw [if_neg (by omega)]; exact p1
      · rw [if_neg (by omega)]; exact p2
      · rw [if_pos rfl]; simp
      · exact TxtAt.carry h3 (fun b hb => ⟨by omega, by omega⟩) (fun _ _ _ => rfl)
    have l2 : ListsL (fun b => b ≠ bo ∧ b ≠ ba) w1 F1 (out ++ [(2, 0, t0 ++ t)]) := l1.same (fun j hj => row_one hr1 h2 j (by simp at hj; omega))
    have l3 : ListsL (fun b => b ≠ bo ∧ b ≠ ba) w' F1 (out ++ [(2, 0, t0 ++ t)]) := l2.carry (fun _ h _ => h) (fun b hb hl => k3.block b hl (by omega))
    have l4 := l3.put (p := (1, del, [])) (ta := td) (tc := 0) (fun i u hu => by simp at hu)
    have e4 : (out ++ [((2 : Int), (0 : Int), t0 ++ t)]).length = out.length + 1 := by simp
    rw [e4] at l4
    refine ⟨he, ⟨some ⟨ba, 0, none⟩, out.length + 1 + 1, by rw [(opCell k1).1]; simp, l4.parts k2 (by simp)⟩, ((hc.only.weaken (fun _ _ h => Or.inl h)).trans (h4.weaken (fun _ _ h => Or.inr h))).trans k3⟩

end

/-- WHAT 'insert' LEAVES at an operation in canonical form. -/
theorem insert_full {bo ba : Nat} {F : Nat → Value} {w : World} {ad : Addr} {c : Nat} {t : List Int} {L out : List Pt} {hi : Bool} {ins : List Int} {hd : Bool} {del : Int} (s : OpFull bo ba F L w) (sp : Split L L.length out hi ins hd del) (hlen : L.length ≤ 4096) (htot : tot L ≤ 1048576)
    {Gt : Nat → Prop} (ht : TxtAt Gt w (some ad) t) (hGt : ∀ b, Gt b → b ≠ bo) (h0 : t ≠ []) (hl : t.length ≤ 2000000) :
    Calls Try.prog 27 #[.pointer (some ⟨bo, 0, none⟩), .slice (some ad) t.length c] w fun e w' => Inserted bo ba (after out ins t hd del) w e w' := by
  have eL : L = out ++ pend hi ins hd del := by rw [← sp.take, List.take_length]
  have hlo : out.length ≤ L.length := by rw [eL]; simp
  have htx : ∀ u, (2, 0, u) ∈ L → u.length ≤ 2000000 := fun u hu => by
    obtain ⟨k, hk, e⟩ := List.mem_iff_getElem.1 hu
    have := text_le (L := L) (k := k) (p := (2, 0, u)) (by rw [List.getElem?_eq_getElem hk, e])
    simp only at this
    omega
  cases hd with
  | false =>
    cases hi with
    | false =>
      have ei := sp.noIns rfl
      subst ei
      have e1 : L = out := by rw [eL]; simp [pend]
      have e2 : after out [] t false del = L ++ [(2, 0, t)] := by rw [e1]; simp [after]
      rw [e2]
      rcases sp.head with e | ⟨o, p, e, hp⟩
      · have e3 : L = [] := e1.trans e
        subst e3
        exact insert_empty ba (some ⟨ba, 0, none⟩) s.op ht h0 hl
      · have e3 : L = o ++ [p] := e1.trans e
        subst e3
        exact insert_retain s hp (by simp at hlen; omega) ht h0 hl
    | true =>
      have e1 : L = out ++ [(2, 0, ins)] := by rw [eL]; simp [pend]
      subst e1
      have e2 : after out ins t false del = out ++ [(2, 0, ins ++ t)] := by simp [after]
      rw [e2]
      exact insert_join s (by simp at hlen; omega) ht h0 hl (htx ins (by simp))
  | true =>
    cases hi with
    | false =>
      have ei := sp.noIns rfl
      subst ei
      have e1 : L = out ++ [(1, del, [])] := by rw [eL]; simp [pend]
      subst e1
      have e2 : after out [] t true del = out ++ [(2, 0, t)] ++ [(1, del, [])] := by simp [after]
      rw [e2]
      exact insert_ahead s sp.head (by simp at hlen; omega) ht hGt h0 hl
    | true =>
      have e1 : L = out ++ [(2, 0, ins)] ++ [(1, del, [])] := by rw [eL]; simp [pend]
      subst e1
      have e2 : after out ins t true del = out ++ [(2, 0, ins ++ t)] ++ [(1, del, [])] := by simp [after]
      rw [e2]
      exact insert_join_ahead s (by simp at hlen; omega) ht hGt h0 hl (htx ins (by simp))
end Go.Proofs.Qxb6602551a

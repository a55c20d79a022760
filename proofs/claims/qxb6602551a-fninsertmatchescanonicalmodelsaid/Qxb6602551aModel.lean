/-
  THE WALK of canonAppendInsert, its loop.
-/
import Derived.Test.Qxb6602551aCanon
namespace Go.Proofs.Qxb6602551a
open Go.RowKit

/-- What the model leaves. -/
def Modelled (R : List Pt → Prop) (w : World) (e : Ending) (w' : World) : Prop := ∃ a c L, R L ∧ e = .returned (.slice a L.length c) ∧ PartsAt (fun _ => True) (fun _ => True) w' a L ∧ Below w.heap.size w w'

/-- Where the loop stands. -/
def Stands (L : List Pt) (text : List Int) (k : Nat) (out : List Pt) (hi : Bool) (ins : List Int) (hd : Bool) (del : Int) : Prop :=
  (k ≤ L.length ∧ Split L k out hi ins hd del) ∨ (k = L.length + 1 ∧ ∃ hi0 ins0, Split L L.length out hi0 ins0 hd del ∧ hi = true ∧ ins = ins0 ++ text)

structure Inv (L : List Pt) (text : List Int) (w : World) (k : Nat) (vo vi : Value) (hi hd : Bool) (del : Int) (wr : World) (out : List Pt) (ins : List Int) : Prop where
  mem : Mem w.heap.size wr vo vi out ins
  below : Below w.heap.size w wr
  stands : Stands L text k out hi ins hd del

theorem Stands.len {L : List Pt} {text : List Int} {k : Nat} {out : List Pt} {hi : Bool} {ins : List Int} {hd : Bool} {del : Int} (h : Stands L text k out hi ins hd del) : out.length ≤ L.length ∧ ins.length ≤ tot L + text.length := by
  have key : ∀ k hi0 ins0, Split L k out hi0 ins0 hd del → out.length ≤ L.length ∧ ins0.length ≤ tot L := by
    intro k hi0 ins0 s
    have h1 := congrArg List.length s.take
    have h2 := congrArg tot s.take
    have h3 := tot_take_le L k
    simp at h1
    have hin : ins0.length ≤ tot (L.take k) := by
      rw [s.take]
      cases hi0 with
      | false => rw [s.noIns rfl]; simp
      | true =>
        have := text_le (L := out ++ pend true ins0 hd del) (k := out.length) (p := (2, 0, ins0)) (by simp [pend])
        simpa using this
    omega
  rcases h with ⟨_, s⟩ | ⟨_, hi0, ins0, s, _, rfl⟩
  · have := key _ _ _ s; omega
  · have := key _ _ _ s; simp; omega

theorem wrap64_id {x : Int} (h0 : 0 < x) (h1 : x ≤ 9223372036854775807) : wrap64 x = x := by unfold wrap64; omega
theorem int_eq {k : IntKind} {a b : Int} (h : a = b) : Value.int k a = .int k b := by rw [h]

/-- The last part that was laid down, read. -/
theorem OutAt.last {base : Nat} {ban : Option Nat} {w : World} {a : Option Addr} {n c : Nat} {L : List Pt} {m : Nat} {q : Pt} (h : OutAt base ban w (.slice a n c) L) (hq : L[m]? = some q) : ∃ g, a = some ⟨g, 0, none⟩ ∧ w.cell? ⟨g, m * 3, none⟩ = some (.int .i64 q.1) := by
  obtain ⟨b, off, ta, tc, h1, _, h3, _⟩ := h.parts m q hq
  obtain ⟨xs, o1, _⟩ := h
  rcases o1.2 with ⟨hv, _⟩ | ⟨g, cap, cur, hv, _⟩
  · injection hv with hv; subst hv; cases h1
  · injection hv with hv _ _
    subst hv
    injection h1 with h1
    injection h1 with h1 h2
    subst h1; subst h2
    exact ⟨g, rfl, by simpa using h3⟩

set_option maxRecDepth 100000 in
set_option maxHeartbeats 4000000 in
theorem canon_text (G H : Nat → Prop) (a : Option Addr) (c : Nat) (L : List Pt) (ad : Addr) (ct : Nat) (text : List Int) (w : World) (hp : PartsAt G H w a L) (hc : Canon L) (hl : L.length ≤ 4096) (hT : tot L ≤ 1048576) (hN : ∀ (i : Nat) (p : Pt), L[i]? = some p → p.2.1 ≤ 9223372036854775807)
    {Gt : Nat → Prop} (ht : TxtAt Gt w (some ad) text) (h0 : text ≠ []) (hlt : text.length ≤ 1048576) :
    Calls Try.prog 14 #[.slice a L.length c, .slice (some ad) text.length ct] w fun e w' =>
      Modelled (fun R => ∃ out hi ins hd del, Split L L.length out hi ins hd del ∧ R = after out ins text hd del) w e w' := by
  have Hp : Hid (PartsAt G H w a L) := hp
  have Hc : Hid (Canon L) := hc
  have HN : Hid _ := hN
  have Ht : Hid (TxtAt Gt w (some ad) text) := ht
  have htp := List.length_pos_iff.2 h0
  have htp' : (0 : Int) < text.length := by omega
  clear hp hc hN ht
  obtain ⟨n, hn⟩ : ∃ n, n = L.length := ⟨_, rfl⟩
  rw [← hn] at hl ⊢
  have Hn : Hid _ := hn
  clear hn
  go_enter Try.func14, Try.ntmps14
  go_wp2_with fail
  go_loopw [5, 6, 7, 8, 9, 11] (fun so si sh sd shd i wr => ∃ (k : Nat) (ao ai : Option Addr) (co ci : Nat) (hi hd : Bool) (del : Int) (out : List Pt) (ins : List Int), k ≤ n + 1 ∧ so = .slice ao out.length co ∧ si = .slice ai ins.length ci ∧ sh = .bool hi ∧ sd = .int .i64 del ∧ shd = .bool hd ∧ i = .int .i64 k ∧
    Inv L text w k (.slice ao out.length co) (.slice ai ins.length ci) hi hd del wr out ins) (fun _ _ _ _ _ i _ => (n + 1 - intOf i).toNat)
  case atStart =>
    exact ⟨0, none, none, 0, 0, false, false, 0, [], [], Nat.zero_le _, rfl, rfl, rfl, rfl, rfl, rfl, Mem.start w, Below.refl _ _, Or.inl ⟨Nat.zero_le _, Split.zero L⟩⟩
  case round =>
    obtain ⟨k, ao, ai, co, ci, hi, hd, del, out, ins, hk, rfl, rfl, rfl, rfl, rfl, rfl, inv⟩ := hrel
    have hlen := inv.stands.len
    have I : Hid (Inv L text w k (.slice ao out.length co) (.slice ai ins.length ci) hi hd del wr out ins) := inv
    clear inv
    by_cases hk1 : k < n
    · -- a part of L
      have hk2 : (k : Int) < n := by omega
      have hk3 : (k : Int) < n + 1 := by omega
      obtain ⟨p, hp⟩ := at_lt (L := L) (k := k) (by rw [← Hn.out]; exact hk1)
      obtain ⟨b, off, ta, tc, hab, _, d1, d2, d3, t0⟩ := Hp.out k p hp
      subst hab
      have hbl : b < w.heap.size := World.block_lt_of_cell? w _ d1
      rw [← I.out.below.cell hbl] at d1 d2 d3
      have T0 : Hid (TxtAt H wr ta p.2.2) := t0.below I.out.below
      have hnp := HN.out k p hp
      have htl := text_le hp
      have ok := (Canon.at Hc.out hp).1
      have HP : Hid (L[k]? = some p) := hp
      have sp : Split L k out hi ins hd del := by
        rcases I.out.stands with ⟨_, s⟩ | ⟨e, _⟩
        · exact s
        · have := Hn.out; omega
      have SP : Hid (Split L k out hi ins hd del) := sp
      have OK : Hid (OkPart p) := ok
      clear t0 hp sp ok
      obtain ⟨kp, np, t⟩ := p
      simp only at d1 d2 d3 hnp htl
      by_cases e0 : kp = 0
      · subst e0
        -- a kept run: what is pending is laid down
        have lasts : ∀ m q, k = m + 1 → (out ++ pend hi ins hd del)[m]? = some q → q.1 ≠ 0 := by
          intro m q em hq
          have e := SP.out.take
          have hk' : (L.take k)[m]? = some q := by rw [e]; exact hq
          rw [List.getElem?_take, if_pos (by omega)] at hk'
          have := ((Canon.at Hc.out HP.out).2 q (by omega) (by rw [em]; exact hk')).1
          exact this
        have LS : Hid _ := lasts
        have S' : Hid (Split L (k + 1) (out ++ pend hi ins hd del ++ [(0, np, [])]) false [] false 0) := SP.out.retain Hc.out HP.out rfl
        have ek : (out ++ pend hi ins hd del).length = k := by
          have := congrArg List.length SP.out.take
          rw [List.length_take] at this
          have := Hn.out
          omega
        have EK : Hid _ := ek
        obtain ⟨ai', ic', hvi, htx⟩ := I.out.mem.txt
        injection hvi with hvi1 _ hvi3
        subst hvi1; subst hvi3
        have TX : Hid _ := htx
        have hbase := I.out.mem.base
        clear lasts ek htx hnp
        go_wp2_with fail
        refine (flush_any w.heap.size none ao ai out.length co ci hi ins hd del out wr (OutAt.free I.out.mem.out) TX.out (by have := Hn.out; omega) hbase).mono ?_
        rintro e w1 ⟨v', rfl, hfl⟩
        obtain ⟨a1, c1, hv1⟩ := hfl.out.form
        subst hv1
        rw [EK.out] at hfl ⊢
        obtain ⟨Q, hQ⟩ : ∃ Q, Q = out ++ pend hi ins hd del := ⟨_, rfl⟩
        rw [← hQ] at hfl
        have FL : Hid (Fl w.heap.size none wr w1 (.slice ao out.length co) (.slice a1 k c1) Q) := hfl
        have hs1 := hfl.grown.size
        have EQ : Hid (Q.length = k) := by have := EK.out; rw [← hQ] at this; exact this
        have LQ : Hid (∀ m q, k = m + 1 → Q[m]? = some q → q.1 ≠ 0) := by have := LS.out; rw [← hQ] at this; exact this
        have SQ : Hid (Split L (k + 1) (Q ++ [(0, np, [])]) false [] false 0) := by have := S'.out; rw [← hQ] at this; exact this
        clear hfl d1 d2 d3 hQ LS S' EK
        have go : ∀ g cap w2, Apd w.heap.size none w1 w2 (.slice a1 k c1) (.slice (some ⟨g, 0, none⟩) (Q.length + 1) cap) (Q ++ [(0, np, [])]) → Inv L text w (k + 1) (.slice (some ⟨g, 0, none⟩) (Q ++ [((0 : Int), np, ([] : List Int))]).length cap) (.slice none 0 0) false false 0 w2 (Q ++ [(0, np, [])]) [] := by
          intro g cap w2 h2
          have el : (Q ++ [((0 : Int), np, ([] : List Int))]).length = Q.length + 1 := by simp
          rw [el]
          have hfb := FL.out.below I.out.mem.out hbase
          have h2b : Below w.heap.size w1 w2 := h2.fl.below FL.out.out (by omega)
          exact ⟨Mem.retained FL.out h2 hbase, (I.out.below.trans hfb).trans h2b, Or.inl ⟨by have := Hn.out; omega, SQ.out⟩⟩
        have GO : Hid _ := go
        clear go
        by_cases hk0 : k = 0
        · have hk0' : (k : Int) - 1 < 0 := by omega
          clear hk0
          go_wp2_with (at_builtin; refine wpList_apd rfl (.tmp 80) (.tmp 83) rfl w.heap.size none w1 (.slice a1 k c1) Q (0, np, []) none 0 rfl rfl FL.out.out (fun i u h => by simp at h) (by rw [EQ.out]; omega) (by omega) ?_)
          intro g cap w2 h2
          have G2 : Hid _ := GO.out g cap w2 h2
          clear h2
          go_wp2_with fail
          exact ⟨⟨k + 1, some ⟨g, 0, none⟩, none, cap, 0, false, false, 0, Q ++ [(0, np, [])], [], by omega, by simp, rfl, rfl, rfl, rfl, by go_num, G2.out⟩, by simp [intOf]; omega⟩
        · obtain ⟨m, hm⟩ : ∃ m, k = m + 1 := ⟨k - 1, by omega⟩
          obtain ⟨q, hq⟩ : ∃ q, Q[m]? = some q := ⟨Q[m]'(by rw [EQ.out]; omega), List.getElem?_eq_getElem _⟩
          have hq0 := LQ.out m q hm hq
          obtain ⟨g1, hg1, hcell⟩ := OutAt.last FL.out.out hq
          subst hg1
          have hqb : (q.1 == 0) = false := by simp [hq0]
          have hk0' : (0 : Int) ≤ (k : Int) - 1 := by omega
          have em : ((k : Int) - 1).toNat = m := by omega
          clear hq hq0 hk0 hm
          go_wp2_with (at_builtin; refine wpList_apd rfl (.tmp 80) (.tmp 83) rfl w.heap.size none w1 (.slice (some ⟨g1, 0, none⟩) k c1) Q (0, np, []) none 0 rfl rfl FL.out.out (fun i u h => by simp at h) (by rw [EQ.out]; omega) (by omega) ?_)
          intro g cap w2 h2
          have G2 : Hid _ := GO.out g cap w2 h2
          clear h2
          go_wp2_with fail
          exact ⟨⟨k + 1, some ⟨g, 0, none⟩, none, cap, 0, false, false, 0, Q ++ [(0, np, [])], [], by omega, by simp, rfl, rfl, rfl, rfl, by go_num, G2.out⟩, by simp [intOf]; omega⟩
      · by_cases e1 : kp = 1
        · subst e1
          obtain ⟨hdel, s'⟩ := SP.out.delete Hc.out HP.out rfl
          subst hdel
          have hnp0 : 0 < np := by
            rcases OK.out with ⟨_, h, _⟩ | ⟨h, _⟩
            · exact h
            · simp at h
          have S' : Hid (Split L (k + 1) out hi ins true np) := s'
          have HNP : Hid (np ≤ 9223372036854775807) := hnp
          clear s' hnp
          go_wp2_with fail
          exact ⟨⟨k + 1, ao, ai, co, ci, hi, true, np, out, ins, by omega, rfl, rfl, rfl, int_eq (wrap64_id hnp0 HNP.out), rfl, by go_num, I.out.mem, I.out.below, Or.inl ⟨by have := Hn.out; omega, S'.out⟩⟩, by simp [intOf]; omega⟩
        · -- an insert
          have y0 : (kp == 0) = false := by simp [e0]
          have y1 : (kp == 1) = false := by simp [e1]
          obtain ⟨hhi, hins, s'⟩ := SP.out.insert Hc.out HP.out e0 e1
          subst hhi; subst hins
          have S' : Hid (Split L (k + 1) out true t hd del) := s'
          have htne : t ≠ [] := by
            rcases OK.out with ⟨h, _⟩ | ⟨_, _, h⟩
            · simp only at h; omega
            · exact h
          obtain ⟨tad, htad⟩ : ∃ tad, ta = some tad := by
            cases ta with
            | some x => exact ⟨x, rfl⟩
            | none =>
              cases t with
              | nil => exact absurd rfl htne
              | cons x r => obtain ⟨_, _, h, _⟩ := T0.out 0 x rfl; cases h
          subst htad
          have HTN : Hid (t ≠ []) := htne
          clear s' htne hnp e0 e1
          go_wp2_with (at_builtin; refine wpList_insapd rfl (.tmp 90) (.tmp 91) rfl w.heap.size wr (.slice ao out.length co) (.slice ai ([] : List Int).length ci) out [] tad tc t rfl rfl I.out.mem T0.out HTN.out (by simp; omega) ?_)
          intro g cap w2 h2 b2
          have M2 : Hid (Mem w.heap.size w2 (.slice ao out.length co) (.slice (some ⟨g, 0, none⟩) t.length cap) out t) := h2
          have B2 : Hid (Below w.heap.size wr w2) := b2
          clear h2 b2
          go_wp2_with fail
          exact ⟨⟨k + 1, ao, some ⟨g, 0, none⟩, co, cap, true, hd, del, out, t, by omega, rfl, rfl, rfl, rfl, rfl, by go_num, M2.out, I.out.below.trans B2.out, Or.inl ⟨by have := Hn.out; omega, S'.out⟩⟩, by simp [intOf]; omega⟩
    · by_cases hk2 : k = n
      · -- the text itself
        have hk3 : (k : Int) < n + 1 := by omega
        have hk4 : ¬ (k : Int) < n := by omega
        have sp : Split L L.length out hi ins hd del := by
          rcases I.out.stands with ⟨_, s⟩ | ⟨e, _⟩
          · rw [← Hn.out, ← hk2]; exact s
          · have := Hn.out; omega
        have SP : Hid (Split L L.length out hi ins hd del) := sp
        have HK : Hid (k = n) := hk2
        clear sp hk2 hk1
        go_wp2_with (at_builtin; refine wpList_insapd rfl (.tmp 90) (.tmp 91) rfl w.heap.size wr (.slice ao out.length co) (.slice ai ins.length ci) out ins ad ct text rfl rfl I.out.mem (TxtAt.below Ht.out I.out.below) h0 (by omega) ?_)
        intro g cap w2 h2 b2
        have M2 : Hid (Mem w.heap.size w2 (.slice ao out.length co) (.slice (some ⟨g, 0, none⟩) (ins.length + text.length) cap) out (ins ++ text)) := h2
        have B2 : Hid (Below w.heap.size wr w2) := b2
        clear h2 b2
        go_wp2_with fail
        exact ⟨⟨k + 1, ao, some ⟨g, 0, none⟩, co, cap, true, hd, del, out, ins ++ text, by have := HK.out; omega, rfl, by simp, rfl, rfl, rfl, by go_num, by simpa using M2.out, I.out.below.trans B2.out, Or.inr ⟨by have := HK.out; have := Hn.out; omega, hi, ins, SP.out, rfl, rfl⟩⟩, by simp [intOf]; omega⟩
      · -- the end
        have hk3 : ¬ (k : Int) < n + 1 := by omega
        obtain ⟨hi0, ins0, s0, e1, e2⟩ : ∃ hi0 ins0, Split L L.length out hi0 ins0 hd del ∧ hi = true ∧ ins = ins0 ++ text := by
          rcases I.out.stands with ⟨h, _⟩ | ⟨_, h⟩
          · have := Hn.out; omega
          · exact h
        have S0 : Hid (Split L L.length out hi0 ins0 hd del) := s0
        have E1 : Hid (hi = true) := e1
        have E2 : Hid (ins = ins0 ++ text) := e2
        obtain ⟨ai', ic', hvi, htx⟩ := I.out.mem.txt
        injection hvi with hvi1 _ hvi3
        subst hvi1; subst hvi3
        have TX : Hid _ := htx
        have hbase := I.out.mem.base
        clear htx s0 e1 e2 hk1 hk2
        go_wp2_with fail
        refine (flush_any w.heap.size none ao ai out.length co ci hi ins hd del out wr (OutAt.free I.out.mem.out) TX.out (by have := Hn.out; omega) hbase).mono ?_
        rintro e w1 ⟨v', rfl, hfl⟩
        obtain ⟨a1, c1, hv1⟩ := hfl.out.form
        subst hv1
        have FL : Hid (Fl w.heap.size none wr w1 (.slice ao out.length co) (.slice a1 (out ++ pend hi ins hd del).length c1) (out ++ pend hi ins hd del)) := hfl
        clear hfl
        obtain ⟨Q, hQ⟩ : ∃ Q, Q = out ++ pend hi ins hd del := ⟨_, rfl⟩
        rw [← hQ] at FL ⊢
        have HQ : Hid (Q = out ++ pend hi ins hd del) := hQ
        clear hQ
        go_wp2_with fail
        go_ret
        refine ⟨a1, c1, Q, ⟨out, hi0, ins0, hd, del, (by have h := S0.out; rw [← Hn.out] at h; exact h), ?_⟩, rfl, FL.out.out.parts, I.out.below.trans (FL.out.below I.out.mem.out hbase)⟩
        rw [HQ.out, E1.out, E2.out]
        simp [pend, after]
set_option maxRecDepth 100000 in
set_option maxHeartbeats 4000000 in
theorem canon_none (G H : Nat → Prop) (a : Option Addr) (c : Nat) (L : List Pt) (at' : Option Addr) (ct : Nat) (w : World) (hp : PartsAt G H w a L) (hc : Canon L) (hl : L.length ≤ 4096) (hT : tot L ≤ 1048576) (hN : ∀ (i : Nat) (p : Pt), L[i]? = some p → p.2.1 ≤ 9223372036854775807):
    Calls Try.prog 14 #[.slice a L.length c, .slice at' 0 ct] w fun e w' => Modelled (fun R => R = L) w e w' := by
  have Hp : Hid (PartsAt G H w a L) := hp
  have Hc : Hid (Canon L) := hc
  have HN : Hid _ := hN
  clear hp hc hN
  obtain ⟨n, hn⟩ : ∃ n, n = L.length := ⟨_, rfl⟩
  rw [← hn] at hl ⊢
  have Hn : Hid _ := hn
  clear hn
  go_enter Try.func14, Try.ntmps14
  go_wp2_with fail
  go_loopw [5, 6, 7, 8, 9, 11] (fun so si sh sd shd i wr => ∃ (k : Nat) (ao ai : Option Addr) (co ci : Nat) (hi hd : Bool) (del : Int) (out : List Pt) (ins : List Int), k ≤ n ∧ so = .slice ao out.length co ∧ si = .slice ai ins.length ci ∧ sh = .bool hi ∧ sd = .int .i64 del ∧ shd = .bool hd ∧ i = .int .i64 k ∧
    Inv L [] w k (.slice ao out.length co) (.slice ai ins.length ci) hi hd del wr out ins) (fun _ _ _ _ _ i _ => (n - intOf i).toNat)
  case atStart =>
    exact ⟨0, none, none, 0, 0, false, false, 0, [], [], Nat.zero_le _, rfl, rfl, rfl, rfl, rfl, rfl, Mem.start w, Below.refl _ _, Or.inl ⟨Nat.zero_le _, Split.zero L⟩⟩
  case round =>
    obtain ⟨k, ao, ai, co, ci, hi, hd, del, out, ins, hk, rfl, rfl, rfl, rfl, rfl, rfl, inv⟩ := hrel
    have hlen := inv.stands.len
    have I : Hid (Inv L [] w k (.slice ao out.length co) (.slice ai ins.length ci) hi hd del wr out ins) := inv
    clear inv
    by_cases hk1 : k < n
    · -- a part of L
      have hk2 : (k : Int) < n := by omega
      obtain ⟨p, hp⟩ := at_lt (L := L) (k := k) (by rw [← Hn.out]; exact hk1)
      obtain ⟨b, off, ta, tc, hab, _, d1, d2, d3, t0⟩ := Hp.out k p hp
      subst hab
      have hbl : b < w.heap.size := World.block_lt_of_cell? w _ d1
      rw [← I.out.below.cell hbl] at d1 d2 d3
      have T0 : Hid (TxtAt H wr ta p.2.2) := t0.below I.out.below
      have hnp := HN.out k p hp
      have htl := text_le hp
      have ok := (Canon.at Hc.out hp).1
      have HP : Hid (L[k]? = some p) := hp
      have sp : Split L k out hi ins hd del := by
        rcases I.out.stands with ⟨_, s⟩ | ⟨e, _⟩
        · exact s
        · have := Hn.out; omega
      have SP : Hid (Split L k out hi ins hd del) := sp
      have OK : Hid (OkPart p) := ok
      clear t0 hp sp ok
      obtain ⟨kp, np, t⟩ := p
      simp only at d1 d2 d3 hnp htl
      by_cases e0 : kp = 0
      · subst e0
        -- a kept run: what is pending is laid down
        have lasts : ∀ m q, k = m + 1 → (out ++ pend hi ins hd del)[m]? = some q → q.1 ≠ 0 := by
          intro m q em hq
          have e := SP.out.take
          have hk' : (L.take k)[m]? = some q := by rw [e]; exact hq
          rw [List.getElem?_take, if_pos (by omega)] at hk'
          have := ((Canon.at Hc.out HP.out).2 q (by omega) (by rw [em]; exact hk')).1
          exact this
        have LS : Hid _ := lasts
        have S' : Hid (Split L (k + 1) (out ++ pend hi ins hd del ++ [(0, np, [])]) false [] false 0) := SP.out.retain Hc.out HP.out rfl
        have ek : (out ++ pend hi ins hd del).length = k := by
          have := congrArg List.length SP.out.take
          rw [List.length_take] at this
          have := Hn.out
          omega
        have EK : Hid _ := ek
        obtain ⟨ai', ic', hvi, htx⟩ := I.out.mem.txt
        injection hvi with hvi1 _ hvi3
        subst hvi1; subst hvi3
        have TX : Hid _ := htx
        have hbase := I.out.mem.base
        clear lasts ek htx hnp
        go_wp2_with fail
        refine (flush_any w.heap.size none ao ai out.length co ci hi ins hd del out wr (OutAt.free I.out.mem.out) TX.out (by have := Hn.out; omega) hbase).mono ?_
        rintro e w1 ⟨v', rfl, hfl⟩
        obtain ⟨a1, c1, hv1⟩ := hfl.out.form
        subst hv1
        rw [EK.out] at hfl ⊢
        obtain ⟨Q, hQ⟩ : ∃ Q, Q = out ++ pend hi ins hd del := ⟨_, rfl⟩
        rw [← hQ] at hfl
        have FL : Hid (Fl w.heap.size none wr w1 (.slice ao out.length co) (.slice a1 k c1) Q) := hfl
        have hs1 := hfl.grown.size
        have EQ : Hid (Q.length = k) := by have := EK.out; rw [← hQ] at this; exact this
        have LQ : Hid (∀ m q, k = m + 1 → Q[m]? = some q → q.1 ≠ 0) := by have := LS.out; rw [← hQ] at this; exact this
        have SQ : Hid (Split L (k + 1) (Q ++ [(0, np, [])]) false [] false 0) := by have := S'.out; rw [← hQ] at this; exact this
        clear hfl d1 d2 d3 hQ LS S' EK
        have go : ∀ g cap w2, Apd w.heap.size none w1 w2 (.slice a1 k c1) (.slice (some ⟨g, 0, none⟩) (Q.length + 1) cap) (Q ++ [(0, np, [])]) → Inv L [] w (k + 1) (.slice (some ⟨g, 0, none⟩) (Q ++ [((0 : Int), np, ([] : List Int))]).length cap) (.slice none 0 0) false false 0 w2 (Q ++ [(0, np, [])]) [] := by
          intro g cap w2 h2
          have el : (Q ++ [((0 : Int), np, ([] : List Int))]).length = Q.length + 1 := by simp
          rw [el]
          have hfb := FL.out.below I.out.mem.out hbase
          have h2b : Below w.heap.size w1 w2 := h2.fl.below FL.out.out (by omega)
          exact ⟨Mem.retained FL.out h2 hbase, (I.out.below.trans hfb).trans h2b, Or.inl ⟨by have := Hn.out; omega, SQ.out⟩⟩
        have GO : Hid _ := go
        clear go
        by_cases hk0 : k = 0
        · have hk0' : (k : Int) - 1 < 0 := by omega
          clear hk0
          go_wp2_with (at_builtin; refine wpList_apd rfl (.tmp 80) (.tmp 83) rfl w.heap.size none w1 (.slice a1 k c1) Q (0, np, []) none 0 rfl rfl FL.out.out (fun i u h => by simp at h) (by rw [EQ.out]; omega) (by omega) ?_)
          intro g cap w2 h2
          have G2 : Hid _ := GO.out g cap w2 h2
          clear h2
          go_wp2_with fail
          exact ⟨⟨k + 1, some ⟨g, 0, none⟩, none, cap, 0, false, false, 0, Q ++ [(0, np, [])], [], by omega, by simp, rfl, rfl, rfl, rfl, by go_num, G2.out⟩, by simp [intOf]; omega⟩
        · obtain ⟨m, hm⟩ : ∃ m, k = m + 1 := ⟨k - 1, by omega⟩
          obtain ⟨q, hq⟩ : ∃ q, Q[m]? = some q := ⟨Q[m]'(by rw [EQ.out]; omega), List.getElem?_eq_getElem _⟩
          have hq0 := LQ.out m q hm hq
          obtain ⟨g1, hg1, hcell⟩ := OutAt.last FL.out.out hq
          subst hg1
          have hqb : (q.1 == 0) = false := by simp [hq0]
          have hk0' : (0 : Int) ≤ (k : Int) - 1 := by omega
          have em : ((k : Int) - 1).toNat = m := by omega
          clear hq hq0 hk0 hm
          go_wp2_with (at_builtin; refine wpList_apd rfl (.tmp 80) (.tmp 83) rfl w.heap.size none w1 (.slice (some ⟨g1, 0, none⟩) k c1) Q (0, np, []) none 0 rfl rfl FL.out.out (fun i u h => by simp at h) (by rw [EQ.out]; omega) (by omega) ?_)
          intro g cap w2 h2
          have G2 : Hid _ := GO.out g cap w2 h2
          clear h2
          go_wp2_with fail
          exact ⟨⟨k + 1, some ⟨g, 0, none⟩, none, cap, 0, false, false, 0, Q ++ [(0, np, [])], [], by omega, by simp, rfl, rfl, rfl, rfl, by go_num, G2.out⟩, by simp [intOf]; omega⟩
      · by_cases e1 : kp = 1
        · subst e1
          obtain ⟨hdel, s'⟩ := SP.out.delete Hc.out HP.out rfl
          subst hdel
          have hnp0 : 0 < np := by
            rcases OK.out with ⟨_, h, _⟩ | ⟨h, _⟩
            · exact h
            · simp at h
          have S' : Hid (Split L (k + 1) out hi ins true np) := s'
          have HNP : Hid (np ≤ 9223372036854775807) := hnp
          clear s' hnp
          go_wp2_with fail
          exact ⟨⟨k + 1, ao, ai, co, ci, hi, true, np, out, ins, by omega, rfl, rfl, rfl, int_eq (wrap64_id hnp0 HNP.out), rfl, by go_num, I.out.mem, I.out.below, Or.inl ⟨by have := Hn.out; omega, S'.out⟩⟩, by simp [intOf]; omega⟩
        · -- an insert
          have y0 : (kp == 0) = false := by simp [e0]
          have y1 : (kp == 1) = false := by simp [e1]
          obtain ⟨hhi, hins, s'⟩ := SP.out.insert Hc.out HP.out e0 e1
          subst hhi; subst hins
          have S' : Hid (Split L (k + 1) out true t hd del) := s'
          have htne : t ≠ [] := by
            rcases OK.out with ⟨h, _⟩ | ⟨_, _, h⟩
            · simp only at h; omega
            · exact h
          obtain ⟨tad, htad⟩ : ∃ tad, ta = some tad := by
            cases ta with
            | some x => exact ⟨x, rfl⟩
            | none =>
              cases t with
              | nil => exact absurd rfl htne
              | cons x r => obtain ⟨_, _, h, _⟩ := T0.out 0 x rfl; cases h
          subst htad
          have HTN : Hid (t ≠ []) := htne
          clear s' htne hnp e0 e1
          go_wp2_with (at_builtin; refine wpList_insapd rfl (.tmp 90) (.tmp 91) rfl w.heap.size wr (.slice ao out.length co) (.slice ai ([] : List Int).length ci) out [] tad tc t rfl rfl I.out.mem T0.out HTN.out (by simp; omega) ?_)
          intro g cap w2 h2 b2
          have M2 : Hid (Mem w.heap.size w2 (.slice ao out.length co) (.slice (some ⟨g, 0, none⟩) t.length cap) out t) := h2
          have B2 : Hid (Below w.heap.size wr w2) := b2
          clear h2 b2
          go_wp2_with fail
          exact ⟨⟨k + 1, ao, some ⟨g, 0, none⟩, co, cap, true, hd, del, out, t, by omega, rfl, rfl, rfl, rfl, rfl, by go_num, M2.out, I.out.below.trans B2.out, Or.inl ⟨by have := Hn.out; omega, S'.out⟩⟩, by simp [intOf]; omega⟩
    · -- the end
        have hk3 : ¬ (k : Int) < n := by omega
        have sp : Split L L.length out hi ins hd del := by
          rcases I.out.stands with ⟨_, s⟩ | ⟨e, _⟩
          · have e : k = L.length := by have := Hn.out; omega
            rw [← e]; exact s
          · have := Hn.out; omega
        have S0 : Hid (Split L L.length out hi ins hd del) := sp
        obtain ⟨ai', ic', hvi, htx⟩ := I.out.mem.txt
        injection hvi with hvi1 _ hvi3
        subst hvi1; subst hvi3
        have TX : Hid _ := htx
        have hbase := I.out.mem.base
        clear htx sp hk1
        go_wp2_with fail
        refine (flush_any w.heap.size none ao ai out.length co ci hi ins hd del out wr (OutAt.free I.out.mem.out) TX.out (by have := Hn.out; omega) hbase).mono ?_
        rintro e w1 ⟨v', rfl, hfl⟩
        obtain ⟨a1, c1, hv1⟩ := hfl.out.form
        subst hv1
        have FL : Hid (Fl w.heap.size none wr w1 (.slice ao out.length co) (.slice a1 (out ++ pend hi ins hd del).length c1) (out ++ pend hi ins hd del)) := hfl
        clear hfl
        obtain ⟨Q, hQ⟩ : ∃ Q, Q = out ++ pend hi ins hd del := ⟨_, rfl⟩
        rw [← hQ] at FL ⊢
        have HQ : Hid (Q = out ++ pend hi ins hd del) := hQ
        clear hQ
        go_wp2_with fail
        go_ret
        refine ⟨a1, c1, Q, ?_, rfl, FL.out.out.parts, I.out.below.trans (FL.out.below I.out.mem.out hbase)⟩
        rw [HQ.out, ← S0.out.take, List.take_length]
end Go.Proofs.Qxb6602551a

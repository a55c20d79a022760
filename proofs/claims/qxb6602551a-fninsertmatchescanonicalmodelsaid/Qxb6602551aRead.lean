/-
  HOW PARTS AND TEXTS LIE IN MEMORY, and the walks of the functions that only read them: the two bounds on size, isCanonical, bytesEqual, sameParts; and cloneBytes.
-/
import Derived.Test.Qxb6602551aRows
import Derived.Test.Qxb6602551aPts
import Derived.Test.Qxb6602551aTree
import Derived.WalkKit
import Derived.WalkSpells
import Derived.WalkLawsBesides
import Derived.Deep.OwnRows
import Derived.Deep.QuietTactic
import Derived.BigQuiet
import Derived.Deep.RegionHeld
namespace Go.Proofs.Qxb6602551a
open Go.RowKit

/-! ### how they lie -/

/-- A text: byte i lies in the cell off + i of a block that G lets. -/
def TxtAt (G : Nat → Prop) (w : World) (a : Option Addr) (t : List Int) : Prop :=
  ∀ i u, t[i]? = some u → ∃ b off, a = some ⟨b, off, none⟩ ∧ G b ∧ w.cell? ⟨b, off + i, none⟩ = some (.int .u8 u)

/-- Parts: three cells each; the texts lie in blocks that G' lets. -/
def PartsAt (G G' : Nat → Prop) (w : World) (a : Option Addr) (L : List Pt) : Prop :=
  ∀ i p, L[i]? = some p → ∃ b off ta tc, a = some ⟨b, off, none⟩ ∧ G b ∧ w.cell? ⟨b, off + i * 3, none⟩ = some (.int .i64 p.1) ∧ w.cell? ⟨b, off + i * 3 + 1, none⟩ = some (.int .i64 p.2.1) ∧
    w.cell? ⟨b, off + i * 3 + 2, none⟩ = some (.slice ta p.2.2.length tc) ∧ TxtAt G' w ta p.2.2

theorem TxtAt.carry {G G' : Nat → Prop} {w w' : World} {a : Option Addr} {t : List Int} (h : TxtAt G w a t) (hG : ∀ b, G b → G' b)
    (hk : ∀ b, G b → b < w.heap.size → w'.heap[b]? = w.heap[b]?) : TxtAt G' w' a t := by
  intro i u hu
  obtain ⟨b, off, h1, h2, h3⟩ := h i u hu
  exact ⟨b, off, h1, hG b h2, by rw [World.cell?_of_block (w := w) (hk b h2 (World.block_lt_of_cell? w _ h3))]; exact h3⟩

theorem PartsAt.carry {G G' H H' : Nat → Prop} {w w' : World} {a : Option Addr} {L : List Pt} (h : PartsAt G H w a L) (hG : ∀ b, G b → G' b) (hH : ∀ b, H b → H' b)
    (hk : ∀ b, G b ∨ H b → b < w.heap.size → w'.heap[b]? = w.heap[b]?) : PartsAt G' H' w' a L := by
  intro i p hp
  obtain ⟨b, off, ta, tc, h1, h2, h3, h4, h5, h6⟩ := h i p hp
  have e := hk b (Or.inl h2) (World.block_lt_of_cell? w _ h3)
  exact ⟨b, off, ta, tc, h1, hG b h2, by rw [World.cell?_of_block (w := w) e]; exact h3, by rw [World.cell?_of_block (w := w) e]; exact h4, by rw [World.cell?_of_block (w := w) e]; exact h5,
    h6.carry hH (fun b hb hl => hk b (Or.inr hb) hl)⟩

/-- Nothing that was there has turned. -/
theorem TxtAt.below {G : Nat → Prop} {w w' : World} {a : Option Addr} {t : List Int} (h : TxtAt G w a t) (hb : Below w.heap.size w w') : TxtAt G w' a t := h.carry (fun _ h => h) (fun b _ hl => hb.block b hl)
theorem PartsAt.below {G H : Nat → Prop} {w w' : World} {a : Option Addr} {L : List Pt} (h : PartsAt G H w a L) (hb : Below w.heap.size w w') : PartsAt G H w' a L := h.carry (fun _ h => h) (fun _ h => h) (fun b _ hl => hb.block b hl)

/-- The sum of the texts' lengths. -/
def tot : List Pt → Nat
  | [] => 0
  | p :: L => p.2.2.length + tot L

theorem tot_snoc (L : List Pt) (p : Pt) : tot (L ++ [p]) = tot L + p.2.2.length := by
  induction L with
  | nil => simp [tot]
  | cons q L ih => simp [tot, ih]; omega

theorem tot_take_le (L : List Pt) (k : Nat) : tot (L.take k) ≤ tot L := by
  induction L generalizing k with
  | nil => simp [tot]
  | cons q L ih =>
    cases k with
    | zero => simp [tot]
    | succ k => simp [tot]; exact ih k

theorem tot_at {L : List Pt} {k : Nat} {p : Pt} (h : L[k]? = some p) : tot (L.take (k + 1)) = tot (L.take k) + p.2.2.length := by
  rw [take_snoc h, tot_snoc]

theorem text_le {L : List Pt} {k : Nat} {p : Pt} (h : L[k]? = some p) : p.2.2.length ≤ tot L := by
  have h1 := tot_at h
  have h2 := tot_take_le L (k + 1)
  omega

theorem at_lt {L : List Pt} {k : Nat} (h : k < L.length) : ∃ p, L[k]? = some p := ⟨L[k], List.getElem?_eq_getElem h⟩

/-- A call answers a bool, of which R is known. -/
def Says (e : Ending) (R : Bool → Prop) : Prop := ∃ r, e = .returned (.bool r) ∧ R r
theorem says {R : Bool → Prop} (r : Bool) (h : R r) : Says (.returned (.bool r)) R := ⟨r, rfl, h⟩

/-! ### zzBytes -/
set_option maxHeartbeats 1000000 in
theorem zz8_any (G H : Nat → Prop) (a a1 : Option Addr) (c l1 c1 : Nat) (L : List Pt) (w : World) (hp : PartsAt G H w a L) (hl : L.length ≤ maxLen) (hl1 : l1 ≤ maxLen) (hT : ∀ (i : Nat) (p : Pt), L[i]? = some p → p.2.2.length ≤ maxLen) :
    Calls Try.prog 8 #[.slice a L.length c, .slice a1 l1 c1] w fun e w' => Says e (fun r => r = true → L.length + tot L + l1 ≤ 1048576) ∧ w = w' := by
  unfold maxLen at hl hl1 hT
  have Hp : Hid _ := hp
  have HT : Hid _ := hT
  clear hp hT
  obtain ⟨n, hn⟩ : ∃ n, n = L.length := ⟨_, rfl⟩
  rw [← hn] at hl ⊢
  have Hn : Hid _ := hn
  clear hn
  by_cases h0 : (1048576 : Int) < n
  · go_enter Try.func8, Try.ntmps8
    go_wp2
    go_ret
    exact ⟨says false (fun h => by cases h), rfl⟩
  · go_enter Try.func8, Try.ntmps8
    go_wp2
    go_loop [5, 6] (fun z i => ∃ k : Nat, k ≤ n ∧ i = .int .i64 k ∧ z = .int .i64 ((n + tot (L.take k) : Nat) : Int) ∧ n + tot (L.take k) ≤ 1048576) (fun _ i => (n - intOf i).toNat)
    case atStart => exact ⟨0, Nat.zero_le _, rfl, by simp [tot], by simp [tot]; omega⟩
    case round =>
      obtain ⟨k, hk, rfl, rfl, hz⟩ := hrel
      by_cases hlt : k < n
      · have hlt' : (k : Int) < n := by omega
        obtain ⟨p, hp⟩ := at_lt (L := L) (k := k) (by rw [← Hn.out]; exact hlt)
        obtain ⟨b, off, ta, tc, rfl, _, d1, d2, d3, _⟩ := Hp.out k p hp
        have ht := HT.out k p hp
        have e1 := tot_at hp
        have Ht : Hid _ := e1
        clear e1 hp d1 d2
        generalize p.2.2.length = m at *
        generalize tot (L.take k) = z at *
        by_cases h1 : (1048576 : Int) < m
        · go_wp2
          go_ret
          exact ⟨says false (fun h => by cases h), rfl⟩
        · by_cases h2 : (1048576 : Int) < n + z + m
          · go_wp2
            go_ret
            exact ⟨says false (fun h => by cases h), rfl⟩
          · go_wp2
            exact ⟨⟨k + 1, by omega, by go_num, by rw [Ht.out]; go_num, by rw [Ht.out]; omega⟩, by simp [intOf]; omega⟩
      · obtain rfl : n = k := by omega
        have et : L.take n = L := by rw [Hn.out, List.take_length]
        rw [et] at hz
        simp only [et]
        by_cases h1 : (1048576 : Int) < l1
        · go_wp2
          go_ret
          exact ⟨says false (fun h => by cases h), rfl⟩
        · by_cases h2 : (1048576 : Int) < n + tot L + l1
          · go_wp2
            go_ret
            exact ⟨says false (fun h => by cases h), rfl⟩
          · go_wp2
            go_ret
            exact ⟨says true (fun _ => by omega), rfl⟩

/-! ### opPartsTooBig -/
set_option maxHeartbeats 1000000 in
theorem tooBig_any (G H : Nat → Prop) (a : Option Addr) (c x : Nat) (L : List Pt) (w : World) (hp : PartsAt G H w a L) (hl : L.length ≤ 4096) (hx : x ≤ 1048576) (hT : tot L ≤ 1048576) :
    Calls Try.prog 9 #[.slice a L.length c, .int .i64 x] w fun e w' => Says e (fun _ => True) ∧ w = w' := by
  have Hp : Hid _ := hp
  clear hp
  obtain ⟨n, hn⟩ : ∃ n, n = L.length := ⟨_, rfl⟩
  rw [← hn] at hl ⊢
  have Hn : Hid _ := hn
  clear hn
  go_enter Try.func9, Try.ntmps9
  go_wp2
  go_loop [5, 6] (fun z i => ∃ k : Nat, k ≤ n ∧ i = .int .i64 k ∧ z = .int .i64 ((x + 40 * n + tot (L.take k) : Nat) : Int)) (fun _ i => (n - intOf i).toNat)
  case atStart => exact ⟨0, Nat.zero_le _, rfl, by simp [tot]⟩
  case round =>
    obtain ⟨k, hk, rfl, rfl⟩ := hrel
    have hz := tot_take_le L k
    by_cases hlt : k < n
    · have hlt' : (k : Int) < n := by omega
      obtain ⟨p, hp⟩ := at_lt (L := L) (k := k) (by rw [← Hn.out]; exact hlt)
      obtain ⟨b, off, ta, tc, rfl, _, d1, d2, d3, _⟩ := Hp.out k p hp
      have ht := text_le hp
      have e1 := tot_at hp
      have Ht : Hid _ := e1
      clear e1 hp d1 d2
      generalize p.2.2.length = m at *
      generalize tot (L.take k) = z at *
      by_cases h2 : (1048576 : Int) < x + 40 * n + z + m
      · go_wp2
        go_ret
        exact ⟨says true trivial, rfl⟩
      · go_wp2
        exact ⟨⟨k + 1, by omega, by go_num, by rw [Ht.out]; go_num⟩, by simp [intOf]; omega⟩
    · generalize tot (L.take k) = z at *
      by_cases h2 : (1048576 : Int) < x + 40 * n + z
      · go_wp2
        go_ret
        exact ⟨says true trivial, rfl⟩
      · have h2' : decide ((1048576 : Int) < x + 40 * n + z) = false := decide_eq_false h2
        go_wp2
        go_ret
        exact ⟨says false trivial, rfl⟩
end Go.Proofs.Qxb6602551a

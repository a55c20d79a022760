/-
  THE WALKS of the small functions on the merge laws' roads.
-/
import Derived.Test.Qxb6602551aRows
import Derived.Test.Qxb6602551aTree
import Derived.WalkKit
import Derived.WalkSpells
import Derived.WalkLawsBesides
import Derived.Deep.OwnRows
import Derived.Deep.QuietTactic
import Derived.BigQuiet
import Derived.Deep.RegionHeld
namespace Go.Proofs.Qxb6602551a
open Go.RowKit

theorem wrapEq (x : Int) : IntKind.i64.wrap x = wrap64 x := by rw [IntKind.wrap_i64, wrap64]

/-! ### (*node).length -/
set_option maxHeartbeats 400000 in
theorem length_nil (w : World) :
    Calls Try.prog 48 #[.pointer none] w fun e w' => e = .returned (.int .i64 0) ∧ w' = w := by
  go_enter Try.func48, Try.ntmps48
  go_wp2
  go_ret
  exact ⟨rfl, rfl⟩

set_option maxHeartbeats 400000 in
theorem length_some (b : Nat) (s : Int) (w : World) (h : w.cell? ⟨b, 3, none⟩ = some (.int .i64 s)) :
    Calls Try.prog 48 #[.pointer (some ⟨b, 0, none⟩)] w fun e w' => e = .returned (.int .i64 s) ∧ w' = w := by
  go_enter Try.func48, Try.ntmps48
  go_wp2
  go_ret
  exact ⟨rfl, rfl⟩

theorem length_any (p : Option Addr) (s : Int) (w : World) (h : Len w p s) :
    Calls Try.prog 48 #[.pointer p] w fun e w' => e = .returned (.int .i64 s) ∧ w' = w := by
  rcases h with ⟨rfl, rfl⟩ | ⟨b, rfl, h⟩
  · exact length_nil w
  · exact length_some b s w h

/-! ### (*node).update -/
set_option maxHeartbeats 400000 in
theorem update_cells (b : Nat) (n sl sr sp : Int) (pl pr : Option Addr) (w : World)
    (h1 : w.cell? ⟨b, 1, none⟩ = some (.int .i64 n)) (h3 : w.cell? ⟨b, 3, none⟩ = some (.int .i64 sp)) (f3 : w.frozen? ⟨b, 3, none⟩ = false)
    (h5 : w.cell? ⟨b, 5, none⟩ = some (.pointer pl)) (h6 : w.cell? ⟨b, 6, none⟩ = some (.pointer pr)) (hl : Len w pl sl) (hr : Len w pr sr) :
    Calls Try.prog 46 #[.pointer (some ⟨b, 0, none⟩)] w fun e w' => e = .returned (.tuple #[]) ∧
      w'.heap = (w.setCell ⟨b, 3, none⟩ (.int .i64 (wrap64 (wrap64 (sl + n) + sr)))).heap ∧ w'.os = w.os ∧ w'.tape = w.tape ∧ w'.output = w.output := by
  go_enter Try.func46, Try.ntmps46
  go_wp2_with fail
  go_region_held (fun w' => w'.cell? ⟨b, 1, none⟩ = some (.int .i64 n) ∧ w'.cell? ⟨b, 5, none⟩ = some (.pointer pl) ∧ w'.cell? ⟨b, 6, none⟩ = some (.pointer pr)) (simp [*, World.cell?_setCell_other])
    (first
      | (go_at_call_of 48 (Value.pointer pl); refine (length_any pl sl _ ?_).mono ?_; exact hl; rintro e w' ⟨rfl, rfl⟩)
      | (go_at_call_of 48 (Value.pointer pr); refine (length_any pr sr _ ?_).mono ?_; exact hr; rintro e w' ⟨rfl, rfl⟩))
  go_end0
  exact ⟨rfl, by rw [← wrapEq, ← wrapEq]; exact ⟨rfl, rfl, rfl, rfl⟩⟩

theorem update_any (b : Nat) (n sl sr sp p : Int) (pl pr : Option Addr) (w : World) (hb : w.heap[b]? = some (node n sp p pl pr)) (hl : Len w pl sl) (hr : Len w pr sr) :
    Calls Try.prog 46 #[.pointer (some ⟨b, 0, none⟩)] w fun e w' => e = .returned (.tuple #[]) ∧ Only (fun k => k = b) w w' ∧
      w'.heap[b]? = some (node n (wrap64 (wrap64 (sl + n) + sr)) p pl pr) := by
  obtain ⟨h1, h3, _, h5, h6⟩ := node_cell hb
  refine (update_cells b n sl sr sp pl pr w h1 h3 (node_frozen hb 3) h5 h6 hl hr).mono ?_
  rintro e w' ⟨he, hh, ho, ht, hu⟩
  refine ⟨he, ((Only.refl (fun k => k = b) w).setCell (fun _ => rfl) _).of_heap hh ho ht hu, ?_⟩
  rw [hh]
  exact node_set3 hb _

/-! ### the readers of a node -/
set_option maxHeartbeats 400000 in
theorem nodeN_any (b : Nat) (v : Int) (w : World) (h : w.cell? ⟨b, 1, none⟩ = some (.int .i64 v)) :
    Calls Try.prog 37 #[.pointer (some ⟨b, 0, none⟩)] w fun e w' => e = .returned (.int .i64 v) ∧ w' = w := by
  go_enter Try.func37, Try.ntmps37
  go_wp2
  go_ret
  exact ⟨rfl, rfl⟩
set_option maxHeartbeats 400000 in
theorem nodePriority_any (b : Nat) (v : Int) (w : World) (h : w.cell? ⟨b, 4, none⟩ = some (.int .u64 v)) :
    Calls Try.prog 38 #[.pointer (some ⟨b, 0, none⟩)] w fun e w' => e = .returned (.int .u64 v) ∧ w' = w := by
  go_enter Try.func38, Try.ntmps38
  go_wp2
  go_ret
  exact ⟨rfl, rfl⟩
set_option maxHeartbeats 400000 in
theorem nodeSpan_any (b : Nat) (v : Int) (w : World) (h : w.cell? ⟨b, 3, none⟩ = some (.int .i64 v)) :
    Calls Try.prog 39 #[.pointer (some ⟨b, 0, none⟩)] w fun e w' => e = .returned (.int .i64 v) ∧ w' = w := by
  go_enter Try.func39, Try.ntmps39
  go_wp2
  go_ret
  exact ⟨rfl, rfl⟩
set_option maxHeartbeats 400000 in
theorem nodeLeft_any (b : Nat) (q : Option Addr) (w : World) (h : w.cell? ⟨b, 5, none⟩ = some (.pointer q)) :
    Calls Try.prog 41 #[.pointer (some ⟨b, 0, none⟩)] w fun e w' => e = .returned (.pointer q) ∧ w' = w := by
  go_enter Try.func41, Try.ntmps41
  go_wp2
  go_ret
  exact ⟨rfl, rfl⟩
set_option maxHeartbeats 400000 in
theorem nodeRight_any (b : Nat) (q : Option Addr) (w : World) (h : w.cell? ⟨b, 6, none⟩ = some (.pointer q)) :
    Calls Try.prog 42 #[.pointer (some ⟨b, 0, none⟩)] w fun e w' => e = .returned (.pointer q) ∧ w' = w := by
  go_enter Try.func42, Try.ntmps42
  go_wp2
  go_ret
  exact ⟨rfl, rfl⟩

/-! ### ZZNewNode -/
set_option maxHeartbeats 400000 in
theorem newNode_any (n s p : Int) (l r : Option Addr) (w : World) :
    Calls Try.prog 35 #[.int .i64 n, .int .i64 s, .int .u64 p, .pointer l, .pointer r] w fun e w' =>
      e = .returned (.pointer (some ⟨w.heap.size, 0, none⟩)) ∧ w' = w.alloc (node n s p l r) := by
  go_enter Try.func35, Try.ntmps35
  go_wp2
  go_ret
  exact ⟨rfl, rfl⟩

end Go.Proofs.Qxb6602551a

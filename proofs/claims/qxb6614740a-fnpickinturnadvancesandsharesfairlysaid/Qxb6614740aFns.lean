/-
  The functions on the road of both laws, one contract each.
-/
import Derived.Test.Qxb6614740aRows
import Derived.WalkKit
import Derived.ProofKit
import Derived.Below
import Derived.BigQuiet
import Derived.Deep.RegionWith
import Derived.Deep.RegionHeld
import Derived.Lib.SliceRun
namespace Go.Proofs.Qxb6614740a
open Go.RowKit
set_option linter.unusedVariables false

set_option maxHeartbeats 1000000 in
theorem store_any (b o : Nat) (x : Int) (u : Value) (w : World) (h : w.cell? ⟨b, o, none⟩ = some u) (hz : w.frozen? ⟨b, o, none⟩ = false) :
    Calls Try.prog 37 #[.pointer (some ⟨b, o, none⟩), .int .u64 x] w fun e w' => e = .returned (.tuple #[]) ∧ w' = w.setCell ⟨b, o, none⟩ (.int .u64 x) := by
  have hl := run_call_store (P := Try.prog) Try.func40 (by kernel_rfl) (by kernel_rfl) (by kernel_rfl) (by kernel_rfl) (k := .u64) (y := x) h hz
  go_enter Try.func37, Try.ntmps37
  go_wp2
  go_end0
  exact ⟨rfl, rfl⟩
set_option maxHeartbeats 1000000 in
theorem load_any (b o : Nat) (x : Int) (w : World) (h : w.cell? ⟨b, o, none⟩ = some (.int .u64 x)) :
    Calls Try.prog 39 #[.pointer (some ⟨b, o, none⟩)] w fun e w' => e = .returned (.int .u64 x) ∧ w' = w := by
  have hl := run_call_load (P := Try.prog) Try.func42 (by kernel_rfl) (by kernel_rfl) (by kernel_rfl) .u64 (by kernel_rfl) h
  go_enter Try.func39, Try.ntmps39
  go_wp2
  go_ret
  exact ⟨rfl, rfl⟩

/-- The turn counter's next number. -/
def wrapU (z : Int) : Int := z % 18446744073709551616

set_option maxHeartbeats 1000000 in
theorem add_any (b o : Nat) (x : Int) (w : World) (h : w.cell? ⟨b, o, none⟩ = some (.int .u64 x)) (hz : w.frozen? ⟨b, o, none⟩ = false) :
    Calls Try.prog 41 #[.pointer (some ⟨b, o, none⟩), .int .u64 1] w fun e w' => e = .returned (.int .u64 (wrapU (x + 1))) ∧ w' = w.setCell ⟨b, o, none⟩ (.int .u64 (wrapU (x + 1))) := by
  have hl := run_call_add (P := Try.prog) Try.func43 (by kernel_rfl) (by kernel_rfl) (by kernel_rfl) .u64 (by kernel_rfl) (y := 1) (s := wrapU (x + 1)) h hz (by simp [go_sem, wrapU, IntKind.wrap_u64])
  go_enter Try.func41, Try.ntmps41
  go_wp2
  go_ret
  exact ⟨rfl, rfl⟩

/-- A Balancer at block bb whose counter stands at T, an inSet at block sb over the row at block g. -/
structure At (w : World) (bb sb g n T : Nat) (B : Nat → Int) : Prop where
  turn : w.cell? ⟨bb, 6, none⟩ = some (.int .u64 T)
  free : w.frozen? ⟨bb, 6, none⟩ = false
  set : w.cell? ⟨sb, 0, none⟩ = some (.slice (some ⟨g, 0, none⟩) n n)
  ne1 : bb ≠ sb
  ne2 : bb ≠ g
  row : ∀ i, i < n → w.cell? ⟨g, i, none⟩ = some (.int .i64 (B i))
  pos : 0 < n
  few : n ≤ 65536
  lt : T < 18446744073709551616

/-- The world behind a pick. -/
def picked (w : World) (bb T : Nat) : World := (w.setCell ⟨bb, 6, none⟩ (.int .u64 (((T + 1) % 18446744073709551616 : Nat) : Int))).drew

theorem At.next {w : World} {bb sb g n T : Nat} {B : Nat → Int} (h : At w bb sb g n T B) : At (picked w bb T) bb sb g n ((T + 1) % 18446744073709551616) B where
  turn := by
    show (w.setCell _ _).cell? _ = _
    exact World.cell?_setCell_same _ _ _ h.turn
  free := by
    have := h.free
    show (w.setCell _ _).frozen? _ = false
    rw [← this]
    simp [go_sem]
  set := (World.cell?_setCell_far w _ _ _ h.ne1).trans h.set
  ne1 := h.ne1
  ne2 := h.ne2
  row i hi := (World.cell?_setCell_far w _ _ _ h.ne2).trans (h.row i hi)
  pos := h.pos
  few := h.few
  lt := Nat.mod_lt _ (by decide)

theorem picked_block {w : World} {bb T k : Nat} (h : k ≠ bb) : (picked w bb T).heap[k]? = w.heap[k]? := by
  show (w.setCell _ _).heap[k]? = _
  simp only [World.setCell, Array.getElem?_modify]
  simp [Ne.symm h]

theorem picked_size {w : World} {bb T : Nat} : (picked w bb T).heap.size = w.heap.size := by
  show (w.setCell _ _).heap.size = _
  simp [World.setCell]

theorem picked_below {w w' : World} {N bb T : Nat} (h : Below N w w') (hN : N ≤ bb) : Below N w (picked w' bb T) := (h.setCell hN _).drew

set_option maxHeartbeats 1000000 in
theorem pick_any (bb sb g n T : Nat) (B : Nat → Int) (w : World) (H : At w bb sb g n T B) :
    Calls Try.prog 38 #[.pointer (some ⟨bb, 0, none⟩), .pointer none, .pointer (some ⟨sb, 0, none⟩)] w fun e w' => e = .returned (.int .i64 (B (T % n))) ∧ w' = picked w bb T := by
  obtain ⟨h, hz, hs, hne, hne2, hg, hn, hn2, ht2⟩ := H
  have hp : picked w bb T = (w.setCell ⟨bb, 6, none⟩ (.int .u64 (wrapU (T + 1)))).drew := by unfold picked wrapU; simp
  rw [hp]
  clear hp
  have hs2 : ∀ v, (w.setCell ⟨bb, 6, none⟩ v).cell? ⟨sb, 0, none⟩ = some (.slice (some ⟨g, 0, none⟩) n n) := fun v => by exact (World.cell?_setCell_far w _ _ _ hne).trans hs
  obtain ⟨r, hr, hlt⟩ : ∃ r : Nat, r = T % n ∧ r < n := ⟨_, rfl, Nat.mod_lt _ hn⟩
  rw [← hr]
  have hg2 : ∀ v, (w.setCell ⟨bb, 6, none⟩ v).cell? ⟨g, r, none⟩ = some (.int .i64 (B r)) := fun v => by exact (World.cell?_setCell_far w _ _ _ hne2).trans (hg _ hlt)
  clear hg
  have hw1 : IntKind.u64.wrap (n : Int) = n := by rw [IntKind.wrap_u64]; omega
  have hw2 : IntKind.u64.wrap (wrapU ((T : Int) + 1) - 1) = T := by rw [IntKind.wrap_u64, wrapU]; omega
  have hw3 : ((n : Int) == 0) = false := by simp; omega
  have hw4 : (T : Int).tmod n = (r : Int) := by rw [Int.tmod_eq_emod_of_nonneg (by omega), hr]; simp
  have hw5 : IntKind.u64.wrap (r : Int) = (r : Int) := by rw [IntKind.wrap_u64]; omega
  clear hr
  go_enter Try.func38, Try.ntmps38
  go_wp2
  go_region_with (go_at_call 41; refine (add_any bb 6 T _ ?_ ?_).mono ?_; exact h; exact hz; rintro e w' ⟨rfl, rfl⟩)
  all_goals (go_wp2; go_ret; exact ⟨rfl, rfl⟩)

set_option maxHeartbeats 1000000 in
theorem ZZpick_any (bb sb g n T : Nat) (B : Nat → Int) (w : World) (H : Hid (At w bb sb g n T B)) :
    Calls Try.prog 28 #[.pointer (some ⟨bb, 0, none⟩), .pointer (some ⟨sb, 0, none⟩)] w fun e w' => e = .returned (.int .i64 (B (T % n))) ∧ w' = picked w bb T := by
  go_enter Try.func28, Try.ntmps28
  go_wp2_with (go_at_call 38; refine (pick_any bb sb g n T B _ H.out).mono ?_; rintro e w' ⟨rfl, rfl⟩)
  go_ret
  exact ⟨rfl, rfl⟩

set_option maxHeartbeats 1000000 in
theorem turns_any (bb T : Nat) (w : World) (h : w.cell? ⟨bb, 6, none⟩ = some (.int .u64 T)) :
    Calls Try.prog 29 #[.pointer (some ⟨bb, 0, none⟩)] w fun e w' => e = .returned (.int .u64 T) ∧ w' = w := by
  go_enter Try.func29, Try.ntmps29
  go_wp2_with (go_at_call 39; refine (load_any bb 6 T _ h).mono ?_; rintro e w' ⟨rfl, rfl⟩)
  go_ret
  exact ⟨rfl, rfl⟩

/-- A new Balancer whose counter stands at T. -/
def balObj (T : Nat) : Obj := .cells #[.nilFunc, .bool false, .slice none 0 0, .pointer none, .int .i32 0, .int .u32 0, .int .u64 T, .slice none 0 0, .pointer none, .int .u64 0, .pointer none, .int .u64 0, .nilFunc] 75

set_option maxHeartbeats 1000000 in
theorem newBal_any (T : Nat) (w : World) :
    Calls Try.prog 26 #[.int .u64 T] w fun e w' => e = .returned (.pointer (some ⟨w.heap.size, 0, none⟩)) ∧ w' = w.alloc (balObj T) := by
  go_enter Try.func26, Try.ntmps26
  go_wp2_with (go_at_call 37; refine (store_any _ 6 T (.int .u64 0) _ ?_ ?_).mono ?_; simp [go_sem]; simp [go_sem]; rintro e w' ⟨rfl, rfl⟩)
  go_ret
  exact ⟨rfl, rfl⟩

set_option maxHeartbeats 1000000 in
theorem newSet_any (a b : Option Addr) (n c m d : Nat) (w : World) :
    Calls Try.prog 27 #[.slice a n c, .slice b m d] w fun e w' => e = .returned (.pointer (some ⟨w.heap.size, 0, none⟩)) ∧ w' = w.alloc (.cells #[.slice a n c, .slice b m d] 78) := by
  go_enter Try.func27, Try.ntmps27
  go_wp2
  go_ret
  exact ⟨rfl, rfl⟩
end Go.Proofs.Qxb6614740a

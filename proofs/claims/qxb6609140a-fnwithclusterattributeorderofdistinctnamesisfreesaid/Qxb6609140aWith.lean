/-
  (*Shared).WithClusterAttribute.
-/
import Derived.Test.Qxb6609140aAttr
namespace Go.Proofs.Qxb6609140a
open Go.RowKit

/-- A Shared of the law's own: all its fields zero, but the last. -/
def SharedAt (w : World) (p : Nat) (v : Value) : Prop := w.heap[p]? = some (.cells #[.slice none 0 0, .slice none 0 0, .slice none 0 0, .slice none 0 0, .slice none 0 0, .string ⟨#[]⟩, .slice none 0 0, .map none, .map none, v] 44 (0, 0))

theorem SharedAt.below {w w' : World} {B p : Nat} {v : Value} (h : SharedAt w p v) (hb : Below B w w') (hp : p < B) : SharedAt w' p v := (hb.block p hp).trans h
theorem SharedAt.lt {w : World} {p : Nat} {v : Value} (h : SharedAt w p v) : p < w.heap.size := (Array.getElem?_eq_some_iff.1 h).1

set_option maxHeartbeats 1000000 in
theorem with_any (p : Nat) (m : Option Nat) (n sz : Nat) (f : ByteArray → Option ByteArray) (key val : ByteArray) (w : World) (hs : SharedAt w p (.map m)) (hm : MapVal w (.map m) n f sz) (hn : n < maxLen) (hk : key.size ≤ maxLen) (hl : val.size ≤ maxLen) :
    Calls Try.prog 17 #[.pointer (some ⟨p, 0, none⟩), .string key, .string val] w fun e w' =>
      (∃ b, e = .returned (.agg #[.slice none 0 0, .slice none 0 0, .slice none 0 0, .slice none 0 0, .slice none 0 0, .string ⟨#[]⟩, .slice none 0 0, .map none, .map none, .map (some b)]) ∧ w.heap.size ≤ b ∧ MapIs w' b (n + 1) (put f key val) (szPut f key sz)) ∧ Below w.heap.size w w' := by
  have cell : ∀ i, w.cell? ⟨p, i, none⟩ = (#[.slice none 0 0, .slice none 0 0, .slice none 0 0, .slice none 0 0, .slice none 0 0, .string ⟨#[]⟩, .slice none 0 0, .map none, .map none, .map m] : Array Value)[i]? := by
    intro i; simp [World.cell?, show w.heap[p]? = _ from hs]
  have c0 := cell 0; have c1 := cell 1; have c2 := cell 2; have c3 := cell 3; have c4 := cell 4; have c5 := cell 5; have c6 := cell 6; have c7 := cell 7; have c8 := cell 8; have c9 := cell 9
  simp at c0 c1 c2 c3 c4 c5 c6 c7 c8 c9
  have hp := hs.lt
  have HS : Hid (SharedAt w p (.map m)) := hs
  have HM : Hid (MapVal w (.map m) n f sz) := hm
  clear cell hs hm
  go_enter Try.func17, Try.ntmps17
  go_wp2_with fail
  obtain ⟨W, hW⟩ : ∃ W, W = ((w.alloc (.cells #[.slice none 0 0, .slice none 0 0, .slice none 0 0, .slice none 0 0, .slice none 0 0, .string ⟨#[]⟩, .slice none 0 0, .map none, .map none, .map none] 44)).alloc
    (.cells #[.slice none 0 0, .slice none 0 0, .slice none 0 0, .slice none 0 0, .slice none 0 0, .string ⟨#[]⟩, .slice none 0 0, .map none, .map none, .map m] 44)) := ⟨_, rfl⟩
  have hWs : W.heap.size = w.heap.size + 2 := by rw [hW]; simp
  have hWb : Below w.heap.size w W := by rw [hW]; exact ((Below.refl _ _).alloc (Nat.le_refl _) _).alloc (by simp) _
  have hW0 : W.heap[w.heap.size]? = some (.cells #[.slice none 0 0, .slice none 0 0, .slice none 0 0, .slice none 0 0, .slice none 0 0, .string ⟨#[]⟩, .slice none 0 0, .map none, .map none, .map none] 44 (0, 0)) := by
    rw [hW, Below.heap_alloc _ _ _ (by simp)]; show (w.heap.push _)[_]? = _; simp
  have hW1 : W.heap[w.heap.size + 1]? = some (.cells #[.slice none 0 0, .slice none 0 0, .slice none 0 0, .slice none 0 0, .slice none 0 0, .string ⟨#[]⟩, .slice none 0 0, .map none, .map none, .map m] 44 (0, 0)) := by
    rw [hW]
    have := (MapKept.heap_alloc (w.alloc (.cells #[.slice none 0 0, .slice none 0 0, .slice none 0 0, .slice none 0 0, .slice none 0 0, .string ⟨#[]⟩, .slice none 0 0, .map none, .map none, .map none] 44)) (.cells #[.slice none 0 0, .slice none 0 0, .slice none 0 0, .slice none 0 0, .slice none 0 0, .string ⟨#[]⟩, .slice none 0 0, .map none, .map none, .map m] 44)).1
    simpa using this
  have hmW : MapVal W (.map m) n f sz := by
    rcases HM.out with h | ⟨b, hb, hm⟩
    · exact .inl h
    · exact .inr ⟨b, hb, hm.below hWb hm.lt⟩
  rw [← hW]
  refine (named_any (.map m) n sz f key val W hmW hn hk hl).mono ?_
  clear hW HM HS c0 c1 c2 c3 c4 c5 c6 c7 c8 c9
  rintro e w1 ⟨⟨b, rfl, hbW, hm1⟩, hb1⟩
  have hr0 : w1.heap[w.heap.size]? = some (.cells #[.slice none 0 0, .slice none 0 0, .slice none 0 0, .slice none 0 0, .slice none 0 0, .string ⟨#[]⟩, .slice none 0 0, .map none, .map none, .map none] 44 (0, 0)) := (hb1.block _ (by omega)).trans hW0
  have hr1 : w1.heap[w.heap.size + 1]? = some (.cells #[.slice none 0 0, .slice none 0 0, .slice none 0 0, .slice none 0 0, .slice none 0 0, .string ⟨#[]⟩, .slice none 0 0, .map none, .map none, .map m] 44 (0, 0)) := (hb1.block _ (by omega)).trans hW1
  have hbw : Below w.heap.size w w1 := hWb.trans (hb1.mono (by omega))
  have hbb : w.heap.size + 2 ≤ b := by omega
  have HM1 : Hid (MapIs w1 b (n + 1) (put f key val) (szPut f key sz)) := hm1
  have HB : Hid (Below w.heap.size w w1) := hbw
  have HBB : Hid (w.heap.size + 2 ≤ b) := hbb
  clear hm1 hbw hbb hbW hmW hW0 hW1 hWb hWs hb1
  have cell0 : ∀ i, w1.cell? ⟨w.heap.size, i, none⟩ = (#[.slice none 0 0, .slice none 0 0, .slice none 0 0, .slice none 0 0, .slice none 0 0, .string ⟨#[]⟩, .slice none 0 0, .map none, .map none, .map none] : Array Value)[i]? := by
    intro i; simp [World.cell?, hr0]
  have cell1 : ∀ i, w1.cell? ⟨w.heap.size + 1, i, none⟩ = (#[.slice none 0 0, .slice none 0 0, .slice none 0 0, .slice none 0 0, .slice none 0 0, .string ⟨#[]⟩, .slice none 0 0, .map none, .map none, .map m] : Array Value)[i]? := by
    intro i; simp [World.cell?, hr1]
  have fr0 : ∀ i, w1.frozen? ⟨w.heap.size, i, none⟩ = false := by intro i; simp [World.frozen?, hr0]
  have fr1 : ∀ i, w1.frozen? ⟨w.heap.size + 1, i, none⟩ = false := by intro i; simp [World.frozen?, hr1]
  clear hr0 hr1
  go_wp2
  refine bodyPost_ret (v := .agg #[.slice none 0 0, .slice none 0 0, .slice none 0 0, .slice none 0 0, .slice none 0 0, .string ⟨#[]⟩, .slice none 0 0, .map none, .map none, .map (some b)]) (by simp [results, Try.results17, go_sem, cell0]) rfl ⟨⟨b, rfl, by have := HBB.out; omega, ?_⟩, ?_⟩
  · have hne := HBB.out
    refine HM1.out.of_block ?_
    rw [Below.heap_setCell _ _ _ _ (by simp; omega), Below.heap_setCell _ _ _ _ (by simp; omega), Below.heap_setCell _ _ _ _ (by simp; omega), Below.heap_setCell _ _ _ _ (by simp; omega), Below.heap_setCell _ _ _ _ (by simp; omega), Below.heap_setCell _ _ _ _ (by simp; omega), Below.heap_setCell _ _ _ _ (by simp; omega), Below.heap_setCell _ _ _ _ (by simp; omega), Below.heap_setCell _ _ _ _ (by simp; omega), Below.heap_setCell _ _ _ _ (by simp; omega), Below.heap_setCell _ _ _ _ (by simp; omega)]
  · exact ((((((((((HB.out.setCell (by simp) _).setCell (by simp) _).setCell (by simp) _).setCell (by simp) _).setCell (by simp) _).setCell (by simp) _).setCell (by simp) _).setCell (by simp) _).setCell (by simp) _).setCell (by simp) _).setCell (by simp) _
end Go.Proofs.Qxb6609140a

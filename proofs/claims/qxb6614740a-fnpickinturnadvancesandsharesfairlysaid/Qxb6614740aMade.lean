/-
  What both laws begin with: the copies, the Balancer, the set.
-/
import Derived.Test.Qxb6614740aSets
namespace Go.Proofs.Qxb6614740a
open Go.RowKit
set_option linter.unusedVariables false

/-- The world behind the four makers. -/
structure Made (w wm : World) (n m T : Nat) (B : Nat → Int) : Prop where
  at_ : At wm (w.heap.size + 2) (w.heap.size + 3) w.heap.size n T B
  below : Below w.heap.size w wm
  size : wm.heap.size = w.heap.size + 4

theorem Made.mk' {w w1 w2 : World} {n m T : Nat} {B P : Nat → Int} (s : Value) (r1 : Row w1 w.heap.size n B) (b1 : Below w.heap.size w w1) (s1 : w1.heap.size = w.heap.size + 1)
    (b2 : Below w1.heap.size w1 w2) (s2 : w2.heap.size = w1.heap.size + 1) (hn : 0 < n) (hn2 : n ≤ 65536) (hT : T < 18446744073709551616) :
    Made w ((w2.alloc (balObj T)).alloc (.cells #[.slice (some ⟨w.heap.size, 0, none⟩) n n, s] 78)) n m T B := by
  have e2 : w2.heap.size = w.heap.size + 2 := by omega
  have e3 : (w2.alloc (balObj T)).heap.size = w.heap.size + 3 := by show (w2.heap.push _).size = _; simp [e2]
  have hb : Below (w.heap.size + 2) w2 ((w2.alloc (balObj T)).alloc (.cells #[.slice (some ⟨w.heap.size, 0, none⟩) n n, s] 78)) := ((Below.refl _ _).alloc (by omega) _).alloc (by omega) _
  have c1 : ((w2.alloc (balObj T)).alloc (.cells #[.slice (some ⟨w.heap.size, 0, none⟩) n n, s] 78)).heap[w.heap.size + 2]? = some (balObj T) := by
    show ((w2.heap.push _).push _)[_]? = _
    rw [← e2]; simp [Array.getElem?_push]
  have c2 : ((w2.alloc (balObj T)).alloc (.cells #[.slice (some ⟨w.heap.size, 0, none⟩) n n, s] 78)).heap[w.heap.size + 3]? = some (.cells #[.slice (some ⟨w.heap.size, 0, none⟩) n n, s] 78) := by
    show ((w2.heap.push _).push _)[_]? = _
    rw [show w.heap.size + 3 = (w2.heap.push (balObj T)).size by simp [e2]]
    exact Array.getElem?_push_size
  refine ⟨⟨?_, ?_, ?_, by omega, by omega, ?_, hn, hn2, hT⟩, ?_, ?_⟩
  · simp only [World.cell?, c1]
    simp [balObj]
  · simp only [World.frozen?, c1]
    simp [balObj]
  · simp [World.cell?, c2]
  · intro i hi
    exact ((r1.below b2 (by omega)).below hb (by omega)).cell hi
  · exact ((b1.trans (b2.mono (by omega))).trans (hb.mono (by omega)))
  · show ((w2.heap.push _).push _).size = _
    simp [e2]
end Go.Proofs.Qxb6614740a

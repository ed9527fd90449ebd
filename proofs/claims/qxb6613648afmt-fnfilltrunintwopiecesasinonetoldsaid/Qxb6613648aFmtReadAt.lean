/-
  bytes.Reader.ReadAt: a full read.
-/
import Derived.Test.Qxb6613648aFmtClone
import Derived.Laws.CopyOwn
namespace Go.Proofs.Qxb6613648aFmt
open Go.RowKit
set_option linter.unusedVariables false

/-- All but block Q is as it was. -/
structure Just (w w' : World) (Q : Nat) : Prop where
  below : ∀ N, N ≤ Q → Below N w w'
  same : ∀ k, k ≠ Q → w'.heap[k]? = w.heap[k]?
  size : w'.heap.size = w.heap.size

theorem just_setRow (w : World) (Q : Nat) (cs : Array Value) : Just w (w.setRow Q cs) Q where
  below N hN := below_setRow (Below.refl N w) hN cs
  same k hk := setRow_other w Q k cs hk
  size := by simp [World.setRow]

theorem Row.read {w : World} {Q N : Nat} {B Z : Nat → Int} {cur : Array Value} (hc : w.heap[Q]? = some (.cells cur 5 (0, 0))) (hs : cur.size = N) (hz : ∀ i, i < N → cur[i]? = some (.int .u8 (Z i))) (n at' : Nat) (hn : n ≤ N)
    (cs : List Value) (hcs : cs = (List.range n).map fun i => Value.int .u8 (B (at' + i))) :
    Row (w.setRow Q (cur.toList.take 0 ++ (cs ++ cur.toList.drop (0 + cs.length))).toArray) Q N (fun i => if i < n then B (at' + i) else Z i) := by
  subst hcs
  refine ⟨_, setRow_heap w Q _ _ 5 _ hc, ?_, ?_⟩
  · simp; omega
  · intro i hi
    simp only [List.getElem?_toArray]
    by_cases h : i < n
    · rw [if_pos h]
      simp [List.getElem?_append, h]
    · rw [if_neg h]
      simp [List.getElem?_append, h]
      have := hz i hi
      simpa [show n + (i - n) = i by omega] using this

set_option maxRecDepth 100000 in
set_option maxHeartbeats 1000000 in
theorem readAt_any (rb P len Q N n c at' : Nat) (B Z : Nat → Int) (w : World) (hrb : w.heap[rb]? = some (.cells #[.slice (some ⟨P, 0, none⟩) len len, .int .i64 0, .int .i64 (-1)] 141 (0, 0)))
    (hP : Row w P len B) (hQ : Row w Q N Z) (hn : 0 < n) (hnN : n ≤ N) (hat : at' + n ≤ len) (hlen : len ≤ 1048576) :
    Calls Tryf.prog 92 #[.pointer (some ⟨rb, 0, none⟩), .slice (some ⟨Q, 0, none⟩) n c, .int .i64 at'] w fun e w' => e = .returned (.tuple #[.int .i64 n, .nilIface]) ∧ Row w' Q N (fun i => if i < n then B (at' + i) else Z i) ∧ Just w w' Q := by
  obtain ⟨cur, hc, hs, hz⟩ := hQ
  have hr : w.cell? ⟨rb, 0, none⟩ = some (.slice (some ⟨P, 0, none⟩) len len) := by simp [World.cell?, hrb]
  obtain ⟨cs, hcs⟩ : ∃ cs : List Value, cs = (List.range n).map fun i => Value.int .u8 (B (at' + i)) := ⟨_, rfl⟩
  have HL : Hid (cs.length = n) := by show _ = _; rw [hcs]; simp
  have H1 : Hid (∀ v ∈ cs, v.oneCell' = true) := by
    intro v hv
    rw [hcs] at hv
    simp only [List.mem_map] at hv
    obtain ⟨i, _, rfl⟩ := hv
    rfl
  have HR : Hid (Row (w.setRow Q (cur.toList.take 0 ++ (cs ++ cur.toList.drop (0 + cs.length))).toArray) Q N (fun i => if i < n then B (at' + i) else Z i) ∧ Just w (w.setRow Q (cur.toList.take 0 ++ (cs ++ cur.toList.drop (0 + cs.length))).toArray) Q) := ⟨Row.read hc hs hz n at' hnN cs hcs, just_setRow w Q _⟩
  have HC : Hid (∀ (j : Nat) v, cs[j]? = some v → w.cell? (Addr.add ⟨P, at', none⟩ j) = some v) := by
    intro j v h
    rw [hcs] at h
    simp only [List.getElem?_map] at h
    have hj : j < n := by
      by_cases h' : j < n
      · exact h'
      · simp [h'] at h
    have hv : v = .int .u8 (B (at' + j)) := by
      simp [List.getElem?_range hj] at h
      exact h.symm
    subst hv
    have := hP.bytes (at' + j) (by omega)
    rw [Nat.zero_add] at this
    by_cases h0 : j = 0
    · subst h0; simpa [Addr.add] using this
    · simpa [Addr.add, h0] using this
  have hlt : at' < len := by omega
  obtain ⟨w9, hcp, HR'⟩ : ∃ w9, (Builtin.copy_ #[22, 22] 3 #[.slice (some ⟨Q, 0, none⟩) n c, .slice (some ⟨P, at', none⟩) (len - at') (len - at')]).run Tryf.prog w = .ok (.int .i64 n) w9 ∧ Hid (Row w9 Q N (fun i => if i < n then B (at' + i) else Z i) ∧ Just w w9 Q) := by
    refine ⟨_, ?_, HR⟩
    have := run_copy_row (P := Tryf.prog) w 22 22 3 5 Q 0 n c ⟨P, at', none⟩ (len - at') (len - at') cur 5 cs Tryf.underlying22 (by kernel_rfl) hc (by rw [HL.out]; exact (Nat.min_eq_right (by omega)).symm) HC.out (by rw [HL.out]; omega) H1.out
    rw [this, HL.out]
    rfl
  clear hP hz hrb hcs HR HC H1 HL hc
  go_enter Tryf.func92, Tryf.ntmps92
  go_wp2
  go_ret2
  exact ⟨rfl, HR'.out⟩
end Go.Proofs.Qxb6613648aFmt

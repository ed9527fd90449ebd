/-
  What the laws share: rows of samples, a walker that is new, where a sample lies.
-/
import Derived.Test.Qxb6613648aFmtFSt
import Derived.Test.Qxb6613648aFmtNew
namespace Go.Proofs.Qxb6613648aFmt
open Go.RowKit
set_option linter.unusedVariables false
set_option linter.unusedSimpArgs false

theorem info78 : (Tryf.prog.info? 78).map (fun i => (i.zero, i.size, i.bytes)) = some (some (.agg #[.int .i64 0, .int .i64 0, .bool false]), 3, 24) := by kernel_rfl

theorem mk_samples (n : Nat) (hn : n ≤ 1073741824) (w : World) : (Instr.makeSlice 76 (.int .i64 n) (.int .i64 n)).run Tryf.prog w = .ok (.slice (some ⟨w.heap.size, 0, none⟩) n n) (w.alloc (.cells (madeCells #[.int .i64 0, .int .i64 0, .bool false] (n * 3)) 78)) := by
  obtain ⟨i0, hi, hz0, hz1, hz2⟩ := info_parts info78
  have := run_make (P := Tryf.prog) w 76 78 i0 (.agg #[.int .i64 0, .int .i64 0, .bool false]) Tryf.underlying76 hi hz0 .i64 .i64 n n (by omega) (Int.le_refl _) (by rw [hz2]; omega) (by omega)
  simp only [hz1, Int.toNat_natCast] at this
  exact this

theorem made3 (L i r : Nat) (hi : i < L) (hr : r < 3) : (madeCells #[.int .i64 0, .int .i64 0, .bool false] (L * 3))[i * 3 + r]? = (#[.int .i64 0, .int .i64 0, .bool false] : Array Value)[r]? := by
  have h1 : i * 3 + r < L * 3 := by omega
  have h2 : (i * 3 + r) % 3 = r := by omega
  unfold madeCells
  rw [Array.getElem?_map, Array.getElem?_range, if_pos h1]
  simp only [Option.map_some]
  show some ((#[.int .i64 0, .int .i64 0, .bool false] : Array Value)[(i * 3 + r) % 3]!) = _
  rw [h2]
  match r, hr with
  | 0, _ => rfl
  | 1, _ => rfl
  | 2, _ => rfl

theorem SRow.made (w : World) (L : Nat) : SRow (w.alloc (.cells (madeCells #[.int .i64 0, .int .i64 0, .bool false] (L * 3)) 78)) w.heap.size L (fun _ => 0) (fun _ => 0) (fun _ => false) := by
  refine ⟨madeCells #[.int .i64 0, .int .i64 0, .bool false] (L * 3), ?_, size_madeCells _ _, fun i hi => ⟨?_, ?_, ?_⟩⟩
  · show (w.heap.push _)[w.heap.size]? = _; simp
  · exact made3 L i 0 hi (by decide)
  · exact made3 L i 1 hi (by decide)
  · exact made3 L i 2 hi (by decide)

theorem SRow.of_block {w w' : World} {D L : Nat} {O Z : Nat → Int} {Y : Nat → Bool} (h : SRow w D L O Z Y) (hb : ∀ c f, w.heap[D]? = some (.cells c 78 f) → w'.heap[D]? = some (.cells c 78 f)) : SRow w' D L O Z Y := by
  obtain ⟨c, g1, g2⟩ := h
  exact ⟨c, hb _ _ g1, g2⟩

theorem SRow.cells {w : World} {D L : Nat} {O Z : Nat → Int} {Y : Nat → Bool} (h : SRow w D L O Z Y) {i : Nat} (hi : i < L) : w.cell? ⟨D, i * 3, none⟩ = some (.int .i64 (O i)) ∧ w.cell? ⟨D, i * 3 + 1, none⟩ = some (.int .i64 (Z i)) ∧ w.cell? ⟨D, i * 3 + 2, none⟩ = some (.bool (Y i)) := by
  obtain ⟨c, g1, g2, g3⟩ := h
  have := g3 i hi
  simp only [World.cell?, g1]
  exact this

theorem SRow.fz {w : World} {D L : Nat} {O Z : Nat → Int} {Y : Nat → Bool} (h : SRow w D L O Z Y) (i : Nat) : w.frozen? ⟨D, i, none⟩ = false := by
  obtain ⟨c, g1, g2, g3⟩ := h
  simp [World.frozen?, g1]

theorem SRow.lay {w : World} {D L : Nat} {O Z : Nat → Int} {Y : Nat → Bool} (h : SRow w D L O Z Y) (i : Nat) (o z : Int) (y : Bool) (hi : i < L) :
    SRow (((w.setCell ⟨D, i * 3, none⟩ (.int .i64 o)).setCell ⟨D, i * 3 + 1, none⟩ (.int .i64 z)).setCell ⟨D, i * 3 + 2, none⟩ (.bool y)) D L (fun j => if j = i then o else O j) (fun j => if j = i then z else Z j) (fun j => if j = i then y else Y j) := by
  obtain ⟨dc, d1, d2, d3⟩ := h
  refine ⟨((dc.setIfInBounds (i * 3) (.int .i64 o)).setIfInBounds (i * 3 + 1) (.int .i64 z)).setIfInBounds (i * 3 + 2) (.bool y), ?_, by simpa using d2, ?_⟩
  · simp only [World.setCell, Array.getElem?_modify, d1]
    simp
  · intro j hj
    have hj3 := d3 j hj
    by_cases e : j = i
    · subst e
      have s0 : j * 3 < dc.size := by omega
      have s1 : j * 3 + 1 < dc.size := by omega
      have s2 : j * 3 + 2 < dc.size := by omega
      simp [Array.getElem?_setIfInBounds, s0, s1, s2]
    · have n0 : ¬ i * 3 = j * 3 := by omega
      have n1 : ¬ i * 3 + 1 = j * 3 := by omega
      have n2 : ¬ i * 3 + 2 = j * 3 := by omega
      have n3 : ¬ i * 3 = j * 3 + 1 := by omega
      have n4 : ¬ i * 3 + 1 = j * 3 + 1 := by omega
      have n5 : ¬ i * 3 + 2 = j * 3 + 1 := by omega
      have n6 : ¬ i * 3 = j * 3 + 2 := by omega
      have n7 : ¬ i * 3 + 1 = j * 3 + 2 := by omega
      have n8 : ¬ i * 3 + 2 = j * 3 + 2 := by omega
      simp only [Array.getElem?_setIfInBounds, n0, n1, n2, n3, n4, n5, n6, n7, n8, if_false, e]
      exact hj3

theorem SRow.congr2 {w : World} {D L : Nat} {O O' Z Z' : Nat → Int} {Y Y' : Nat → Bool} (h : SRow w D L O Z Y) (h1 : ∀ i, i < L → O i = O' i) (h2 : ∀ i, i < L → Z i = Z' i) (h3 : ∀ i, i < L → Y i = Y' i) : SRow w D L O' Z' Y' := by
  obtain ⟨c, g1, g2, g3⟩ := h
  exact ⟨c, g1, g2, fun i hi => by rw [← h1 i hi, ← h2 i hi, ← h3 i hi]; exact g3 i hi⟩

/-- A walker that is new, and a row to fill: the state that a fill begins in. -/
theorem FW.start {fb mb rb tb sb P len qb cp cn e0 v N wb D L : Nat} {far left a sa fa sz x fl : Int} {hs b hf : Bool} {B : Nat → Int} {w0 wS : World} {w : World} {O Z : Nat → Int} {Y : Nat → Bool} (hrt : RT w fb mb rb tb sb P len far left B (.slice (some ⟨qb, 0, none⟩) 1 cp) cn) (htr : TrunAt w qb #[.int .i64 a, .int .i64 e0, .int .i64 cn, .int .i64 v, .int .i64 sa, .int .i64 fa, .int .u32 sz, .int .u32 x, .bool hs, .bool b, .int .u32 sz, .int .u32 fl, .bool hs, .bool hf]) (hb : Below N w0 w)
    (hw : w.heap[wb]? = some (.cells #[.pointer (some ⟨sb, 0, none⟩), .int .i64 0, .int .i64 0, .int .u64 0, .int .u32 0, .int .u32 0, .int .u32 0, .int .u64 0, .int .u32 0, .int .u32 0, .int .i64 0, .int .u64 0, .int .i64 0, .int .i64 0, .int .i64 0, .slice none 0 0, .int .i64 0, .int .i64 0, .int .i64 0, .slice none 0 0, .int .i64 0, .int .i64 0, .int .i64 0, .slice none 0 0, .int .i64 0, .int .i64 0, .int .i64 0, .slice none 0 0, .int .i64 0, .int .i64 0, .int .i64 0, .slice none 0 0, .int .i64 0, .int .i64 0, .int .i64 0] 138 (0, 0))) (hd : SRow w D L O Z Y) : FW fb mb rb tb sb P len qb cp cn e0 v N wb D L far left a sa fa sz x fl hs b hf B w0 w w 0 0 0 O Z Y := by
  have c : ∀ j, w.cell? ⟨wb, j, none⟩ = (#[.pointer (some ⟨sb, 0, none⟩), .int .i64 0, .int .i64 0, .int .u64 0, .int .u32 0, .int .u32 0, .int .u32 0, .int .u64 0, .int .u32 0, .int .u32 0, .int .i64 0, .int .u64 0, .int .i64 0, .int .i64 0, .int .i64 0, .slice none 0 0, .int .i64 0, .int .i64 0, .int .i64 0, .slice none 0 0, .int .i64 0, .int .i64 0, .int .i64 0, .slice none 0 0, .int .i64 0, .int .i64 0, .int .i64 0, .slice none 0 0, .int .i64 0, .int .i64 0, .int .i64 0, .slice none 0 0, .int .i64 0, .int .i64 0, .int .i64 0] : Array Value)[j]? := fun j => by simp [World.cell?, hw]
  exact ⟨hrt, htr, hb, fun k c t f h _ _ _ _ _ => h, ⟨_, hw, rfl⟩, c 0, c 1, c 12, c 13, c 14, .inl ⟨c 31, c 33, c 34⟩, hd⟩

/-- How many bytes the first j samples have. -/
def sumTo (sz : Nat → Int) : Nat → Int
  | 0 => 0
  | j + 1 => sumTo sz j + sz j

theorem sumTo_bd {sz : Nat → Int} (h : ∀ j, 0 ≤ sz j ∧ sz j ≤ 4294967295) (j : Nat) : 0 ≤ sumTo sz j ∧ sumTo sz j ≤ j * 4294967295 := by
  induction j with
  | zero => exact ⟨Int.le_refl _, Int.le_refl _⟩
  | succ j ih =>
    have := h j
    show 0 ≤ sumTo sz j + sz j ∧ sumTo sz j + sz j ≤ _
    omega

theorem off_sum {far a : Int} {sz : Nat → Int} (h : ∀ j, 0 ≤ sz j ∧ sz j ≤ 4294967295) (j : Nat) : offAt far a sz (j + 1) = min (a + sumTo sz (j + 1)) far := by
  induction j with
  | zero =>
    show min (a + sz 0) far = min (a + (0 + sz 0)) far
    rw [Int.zero_add]
  | succ j ih =>
    have := h (j + 1)
    show min (offAt far a sz (j + 1) + sz (j + 1)) far = min (a + (sumTo sz (j + 1) + sz (j + 1))) far
    rw [ih]
    omega
end Go.Proofs.Qxb6613648aFmt

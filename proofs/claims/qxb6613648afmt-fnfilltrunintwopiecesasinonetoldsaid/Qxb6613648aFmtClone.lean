/-
  cloneBytes; the guards on the input.
-/
import Derived.Test.Qxb6613648aFmtBytes
import Derived.Lib.SliceRun
namespace Go.Proofs.Qxb6613648aFmt
open Go.RowKit

/-- Block g is a row of n bytes of the call's own. -/
def Row (w : World) (g n : Nat) (B : Nat → Int) : Prop := ∃ cur : Array Value, w.heap[g]? = some (.cells cur 5 (0, 0)) ∧ cur.size = n ∧ ∀ i, i < n → cur[i]? = some (.int .u8 (B i))

theorem Row.lt {w : World} {g n : Nat} {B : Nat → Int} (h : Row w g n B) : g < w.heap.size := by
  obtain ⟨cur, h1, _⟩ := h
  exact (Array.getElem?_eq_some_iff.1 h1).1
theorem Row.bytes {w : World} {g n : Nat} {B : Nat → Int} (h : Row w g n B) : Bytes w g 0 n B := by
  obtain ⟨cur, h1, h2, h3⟩ := h
  intro i hi
  simp [World.cell?, h1, h3 i hi]
theorem Row.frozen {w : World} {g n : Nat} {B : Nat → Int} (h : Row w g n B) (i : Nat) : w.frozen? ⟨g, i, none⟩ = false := by
  obtain ⟨cur, h1, _⟩ := h
  simp [World.frozen?, h1]
theorem Row.of_block {w w' : World} {g n : Nat} {B : Nat → Int} (h : Row w g n B) (hb : w'.heap[g]? = w.heap[g]?) : Row w' g n B := by
  obtain ⟨cur, h1, h2⟩ := h
  exact ⟨cur, hb.trans h1, h2⟩
theorem Row.below {w w' : World} {N g n : Nat} {B : Nat → Int} (h : Row w g n B) (hb : Below N w w') (hN : g < N) : Row w' g n B := h.of_block (hb.block g hN)
theorem Row.drewN {w : World} {g n : Nat} {B : Nat → Int} (h : Row w g n B) (m : Nat) : Row (w.drewN m) g n B := h.of_block rfl
theorem Row.congr {w : World} {g n : Nat} {B B' : Nat → Int} (h : Row w g n B) (e : ∀ i, i < n → B i = B' i) : Row w g n B' := by
  obtain ⟨cur, h1, h2, h3⟩ := h
  exact ⟨cur, h1, h2, fun i hi => by rw [h3 i hi, e i hi]⟩
theorem Row.set {w : World} {g n : Nat} {B : Nat → Int} (h : Row w g n B) (k : Nat) (x : Int) : Row (w.setCell ⟨g, k, none⟩ (.int .u8 x)) g n (fun i => if i = k then x else B i) := by
  obtain ⟨cur, h1, h2, h3⟩ := h
  refine ⟨cur.setIfInBounds k (.int .u8 x), ?_, by simpa using h2, ?_⟩
  · simp only [World.setCell, Array.getElem?_modify, h1]
    simp
  · intro i hi
    rw [Array.getElem?_setIfInBounds]
    by_cases e : k = i
    · subst e; simp [h2, hi]
    · have e' : ¬ i = k := fun h => e h.symm
      rw [if_neg e, h3 i hi]
      simp [e']
theorem Row.made (w : World) (n : Nat) : Row (w.alloc (.cells (madeCells #[.int .u8 0] n) 5)) w.heap.size n (fun _ => 0) := by
  refine ⟨madeCells #[.int .u8 0] n, ?_, size_madeCells _ _, ?_⟩
  · show (w.heap.push _)[w.heap.size]? = _; simp
  · intro i hi
    have : (madeCells #[.int .u8 0] n).toList[i]? = some (.int .u8 0) := by rw [toList_madeCells_one]; simp [hi]
    simpa using this

theorem info5 : (Tryf.prog.info? 5).map (fun i => (i.zero, i.size, i.bytes)) = some (some (.int .u8 0), 1, 1) := by kernel_rfl
theorem mk_bytes (n : Nat) (hn : n ≤ 1073741824) (w : World) : (Instr.makeSlice 22 (.int .i64 n) (.int .i64 n)).run Tryf.prog w = .ok (.slice (some ⟨w.heap.size, 0, none⟩) n n) (w.alloc (.cells (madeCells #[.int .u8 0] n) 5)) := by
  obtain ⟨i0, hi, hz0, hz1, hz2⟩ := info_parts info5
  have := run_make (P := Tryf.prog) w 22 5 i0 (.int .u8 0) Tryf.underlying22 hi hz0 .i64 .i64 n n (by omega) (Int.le_refl _) (by rw [hz2]; omega) (by omega)
  simp only [hz1, Int.toNat_natCast, Nat.mul_one] at this
  exact this

set_option maxHeartbeats 1000000 in
theorem clone_nil (w : World) : Calls Tryf.prog 11 #[.slice none 0 0] w fun e w' => e = .returned (.slice none 0 0) ∧ w' = w := by
  have hq := fun w a n c => Lib.run_eql_slice_nil (P := Tryf.prog) w 22 _ a n c 0 0 Tryf.underlying22
  go_enter Tryf.func11, Tryf.ntmps11
  go_wp2
  go_ret
  exact ⟨rfl, rfl⟩

set_option maxHeartbeats 1000000 in
theorem clone_some (x : Addr) (len cap : Nat) (B : Nat → Int) (w : World) (hl : len ≤ 1048576) (h : len = 0 ∨ ∃ b o, x = ⟨b, o, none⟩ ∧ b < w.heap.size ∧ Bytes w b o len B) :
    Calls Tryf.prog 11 #[.slice (some x) len cap] w fun e w' => e = .returned (.slice (some ⟨w.heap.size, 0, none⟩) len len) ∧ Row w' w.heap.size len B ∧ Below w.heap.size w w' := by
  have hq := fun w a n c => Lib.run_eql_slice_nil (P := Tryf.prog) w 22 _ a n c 0 0 Tryf.underlying22
  have hmk := mk_bytes len (by omega)
  have H : Hid (len = 0 ∨ ∃ b o, x = ⟨b, o, none⟩ ∧ b < w.heap.size ∧ Bytes w b o len B) := h
  clear h
  go_enter Tryf.func11, Tryf.ntmps11
  go_wp2
  go_loopw [12] (fun i wr => ∃ k : Nat, k ≤ len ∧ i = .int .i64 k ∧ Hid (Row wr w.heap.size len (fun i => if i < k then B i else 0)) ∧ Hid (Below w.heap.size w wr)) (fun i _ => len - (intOf i).toNat)
  case atStart => exact ⟨0, Nat.zero_le _, rfl, (Row.made w len).congr (fun i _ => by simp), (Below.refl _ _).alloc (Nat.le_refl _) _⟩
  case round =>
    obtain ⟨k, hk, rfl, HR, HB⟩ := hrel
    by_cases hlt : k < len
    · obtain ⟨b, o, rfl, hbs, hb⟩ : ∃ b o, x = ⟨b, o, none⟩ ∧ b < w.heap.size ∧ Bytes w b o len B := by
        rcases H.out with h | h
        · omega
        · exact h
      have hc : wr.cell? ⟨b, o + k, none⟩ = some (.int .u8 (B k)) := (HB.out.cell hbs).trans (hb k hlt)
      have hd : wr.cell? ⟨w.heap.size, k, none⟩ = some (.int .u8 0) := by
        have := HR.out.bytes k hlt
        simpa using this
      have hf := HR.out.frozen k
      have HR' : Hid (Row (wr.setCell ⟨w.heap.size, k, none⟩ (.int .u8 (B k))) w.heap.size len (fun i => if i < k + 1 then B i else 0)) := by
        refine (HR.out.set k (B k)).congr fun i _ => ?_
        by_cases e : i = k
        · subst e; simp
        · by_cases e2 : i < k
          · simp [e, e2, show i < k + 1 by omega]
          · simp [e, e2, show ¬ i < k + 1 by omega]
      have HB' : Hid (Below w.heap.size w (wr.setCell ⟨w.heap.size, k, none⟩ (.int .u8 (B k)))) := HB.out.setCell (Nat.le_refl _) _
      clear HR HB hb
      go_wp2
      go_roundw
      case rel => exact ⟨k + 1, by omega, by go_num, HR', HB'⟩
      case measure => simp [intOf]; omega
    · have HR' : Hid (Row wr w.heap.size len B) := HR.out.congr (fun i hi => by rw [if_pos (by omega)])
      go_wp2
      go_ret
      exact ⟨rfl, HR'.out, HB.out⟩
end Go.Proofs.Qxb6613648aFmt

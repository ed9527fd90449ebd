/-
  fieldReader.next, fieldReader.u32; fit, table, declare.
-/
import Derived.Test.Qxb6613648aFmtSpan
import Derived.Deep.RegionHeld
import Derived.Lib.LazyBuf
namespace Go.Proofs.Qxb6613648aFmt
open Go.RowKit
set_option linter.unusedVariables false

/-- The place behind the first four bytes (of no account where nothing follows). -/
def Past (Q o l : Nat) (p : Addr) : Prop := 4 < l → p = ⟨Q, o + 4, none⟩

set_option maxRecDepth 100000 in
set_option maxHeartbeats 1000000 in
theorem next_any (fb Q o l : Nat) (w : World) (h7 : w.cell? ⟨fb, 7, none⟩ = some (.slice (some ⟨Q, o, none⟩) l l)) (h8 : w.cell? ⟨fb, 8, none⟩ = some .nilIface) (hf : w.frozen? ⟨fb, 7, none⟩ = false) (hl : 4 ≤ l) (hl2 : l ≤ 1048576) :
    Calls Tryf.prog 55 #[.pointer (some ⟨fb, 0, none⟩), .int .i64 4] w fun e w' => e = .returned (.slice (some ⟨Q, o, none⟩) 4 l) ∧ ∃ p, Past Q o l p ∧ w' = w.setCell ⟨fb, 7, none⟩ (.slice (some p) (l - 4) (l - 4)) := by
  have hd : decide ((l : Int) < 4) = false := decide_eq_false (by omega)
  by_cases h4 : 4 < l
  · go_enter Tryf.func55, Tryf.ntmps55
    go_wp2
    go_ret
    exact ⟨rfl, _, fun _ => rfl, rfl⟩
  · obtain rfl : l = 4 := by omega
    go_enter Tryf.func55, Tryf.ntmps55
    go_wp2
    go_ret
    exact ⟨rfl, _, fun h => absurd h h4, rfl⟩

def U32 (w : World) (fb Q o l : Nat) (w' : World) : Prop := ∃ p n, Past Q o l p ∧ w' = ((w.setCell ⟨fb, 7, none⟩ (.slice (some p) (l - 4) (l - 4))).alloc (.cells #[] 163)).drewN n

set_option maxRecDepth 100000 in
set_option maxHeartbeats 1000000 in
theorem fu32_any (fb Q o l : Nat) (B : Nat → Int) (x : Int) (w : World) (hx : x = be B 0) (h7 : w.cell? ⟨fb, 7, none⟩ = some (.slice (some ⟨Q, o, none⟩) l l)) (h8 : w.cell? ⟨fb, 8, none⟩ = some .nilIface) (hf : w.frozen? ⟨fb, 7, none⟩ = false) (hl : 4 ≤ l) (hl2 : l ≤ 1048576)
    (hne : fb ≠ Q) (hb : Bytes w Q o 4 B) (hB : Byte B) :
    Calls Tryf.prog 53 #[.pointer (some ⟨fb, 0, none⟩)] w fun e w' => e = .returned (.int .u32 x) ∧ U32 w fb Q o l w' := by
  have HB : Hid (Bytes w Q o 4 B) := hb
  have HBy : Hid (Byte B) := hB
  have HX : Hid (x = be B 0) := hx
  have hq := fun w a n c => run_neq_slice_nil (P := Tryf.prog) w 22 _ a n c Tryf.underlying22
  clear hb hB hx
  go_enter Tryf.func53, Tryf.ntmps53
  go_wp2_with fail
  refine (next_any fb Q o l w h7 h8 hf hl hl2).mono ?_
  rintro e w1 ⟨rfl, p, hp, hw1⟩
  have HW1 : Hid (Past Q o l p ∧ w1 = w.setCell ⟨fb, 7, none⟩ (.slice (some p) (l - 4) (l - 4))) := ⟨hp, hw1⟩
  have HB1 : Hid (Bytes w1 Q o 4 B) := fun i hi => by
    rw [hw1, World.cell?_setCell_far w _ _ _ hne]
    exact HB.out i hi
  clear hp hw1
  go_wp2_with fail
  refine (u32_any Q o 4 l B w1 (by omega) (by omega) HB1.out HBy.out).mono ?_
  rintro e w2 ⟨rfl, n, hw2⟩
  rw [← HX.out]
  have H2 : Hid (U32 w fb Q o l w2) := ⟨p, n, HW1.out.1, by rw [hw2, HW1.out.2]⟩
  clear hw2
  go_wp2
  go_ret
  exact ⟨rfl, H2.out⟩

set_option maxRecDepth 100000 in
set_option maxHeartbeats 1000000 in
theorem fit_any (l : Nat) (cnt wd : Int) (t0 t1 t2 t3 st bd en : Int) (w : World) (hl : l ≤ 1048576) (hw0 : 0 ≤ wd) (hw1 : wd ≤ 16) (hc0 : 0 ≤ cnt) (hc1 : cnt ≤ 4294967295) (hf : cnt * wd ≤ l) :
    Calls Tryf.prog 68 #[boxV t0 t1 t2 t3 st bd en, .int .i64 l, .int .u32 cnt, .int .i64 wd] w fun e w' => e = .returned .nilIface ∧ Below w.heap.size w w' := by
  have HB0 : Hid (∀ o, Below w.heap.size w (w.alloc o)) := fun o => (Below.refl _ _).alloc (Nat.le_refl _) _
  by_cases hp : 0 < wd
  · have h1 : ¬ (l : Int) / wd < cnt := by
      have := (Int.le_ediv_iff_mul_le hp (a := cnt) (b := (l : Int))).2 hf
      omega
    have hq : IntKind.u64.wrap ((l : Int) / wd) = (l : Int) / wd := by
      have h2 : 0 ≤ (l : Int) / wd := Int.ediv_nonneg (by omega) hw0
      have h3 : (l : Int) / wd ≤ l := Int.ediv_le_self _ (by omega)
      rw [IntKind.wrap_u64]
      omega
    have h2 : decide ((l : Int) / wd < cnt) = false := decide_eq_false h1
    clear hf
    go_enter Tryf.func68, Tryf.ntmps68
    go_wp2
    go_ret
    exact ⟨rfl, HB0.out _⟩
  · obtain rfl : wd = 0 := by omega
    clear hf
    go_enter Tryf.func68, Tryf.ntmps68
    go_wp2
    go_ret
    exact ⟨rfl, HB0.out _⟩

set_option maxRecDepth 100000 in
set_option maxHeartbeats 1000000 in
theorem table_any (a : Addr) (l c : Nat) (cnt wd : Int) (t0 t1 t2 t3 st bd en : Int) (w : World) (hl : l ≤ 1048576) (hw0 : 0 ≤ wd) (hw1 : wd ≤ 16) (hc0 : 0 ≤ cnt) (hc1 : cnt ≤ 4294967295) (hf : cnt * wd ≤ l) :
    Calls Tryf.prog 58 #[boxV t0 t1 t2 t3 st bd en, .slice (some a) l c, .int .u32 cnt, .int .i64 wd] w fun e w' => e = .returned (.tuple #[.slice (some a) l c, .int .i64 cnt, .nilIface]) ∧ Below w.heap.size w w' := by
  have HB0 : Hid (∀ o, Below w.heap.size w (w.alloc o)) := fun o => (Below.refl _ _).alloc (Nat.le_refl _) _
  have HF : Hid (cnt * wd ≤ l) := hf
  clear hf
  go_enter Tryf.func58, Tryf.ntmps58
  go_wp2_with fail
  refine (fit_any l cnt wd t0 t1 t2 t3 st bd en _ hl hw0 hw1 hc0 hc1 HF.out).mono ?_
  rintro e w2 ⟨rfl, h2⟩
  have H2 : Hid (Below w.heap.size w w2) := (HB0.out _).trans (h2.mono (by simp))
  clear h2
  go_wp2
  go_ret3
  exact ⟨rfl, H2.out⟩

set_option maxRecDepth 100000 in
set_option maxHeartbeats 1000000 in
theorem declare_any (mb : Nat) (left cnt : Int) (w : World) (h5 : w.cell? ⟨mb, 5, none⟩ = some (.int .u64 left)) (hf : w.frozen? ⟨mb, 5, none⟩ = false) (hc0 : 0 ≤ cnt) (hl : cnt ≤ left) (hl1 : left ≤ 65536) :
    Calls Tryf.prog 59 #[.pointer (some ⟨mb, 0, none⟩), .int .u64 cnt] w fun e w' => e = .returned .nilIface ∧ w' = w.setCell ⟨mb, 5, none⟩ (.int .u64 (left - cnt)) := by
  go_enter Tryf.func59, Tryf.ntmps59
  go_wp2
  go_ret
  exact ⟨rfl, rfl⟩
end Go.Proofs.Qxb6613648aFmt

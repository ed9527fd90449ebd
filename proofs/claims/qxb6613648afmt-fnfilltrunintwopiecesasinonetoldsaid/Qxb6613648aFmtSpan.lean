/-
  readSpan, fullHead, fullPayload: the box's payload.
-/
import Derived.Test.Qxb6613648aFmtReadAt
import Derived.Test.Qxb6613648aFmtGuards
import Derived.BigQuiet
import Derived.Deep.RegionWith
namespace Go.Proofs.Qxb6613648aFmt
open Go.RowKit
set_option linter.unusedVariables false

theorem alloc_cell (w : World) (A : Array Value) (t : TypeId) (i : Nat) : (w.alloc (.cells A t)).cell? ⟨w.heap.size, i, none⟩ = A[i]? := by
  have : (w.alloc (.cells A t)).heap[w.heap.size]? = some (.cells A t) := by show (w.heap.push _)[w.heap.size]? = _; simp
  simp only [World.cell?, this]
  rfl

theorem method_readAt (a : Addr) (w : World) : (method 362 90 (.pointer (some a)) "ReadAt").run Tryf.prog w = .ok (92, .pointer (some a)) w := by kernel_rfl

/-- n bytes from place at' on, read into a row of the call's own, the second block behind those that were there. -/
structure Span (w : World) (n at' : Nat) (B : Nat → Int) (w' : World) : Prop where
  row : Row w' (w.heap.size + 1) n (fun i => B (at' + i))
  below : Below w.heap.size w w'

set_option maxRecDepth 100000 in
set_option maxHeartbeats 1000000 in
theorem readSpan_any (rb P len n at' : Nat) (t0 t1 t2 t3 st bd en : Int) (B : Nat → Int) (w : World) (hrb : w.heap[rb]? = some (.cells #[.slice (some ⟨P, 0, none⟩) len len, .int .i64 0, .int .i64 (-1)] 141 (0, 0)))
    (hP : Row w P len B) (hn : 0 < n) (hat : at' + n ≤ len) (hlen : len ≤ 1048576) :
    Calls Tryf.prog 70 #[.iface 90 (.pointer (some ⟨rb, 0, none⟩)), boxV t0 t1 t2 t3 st bd en, .int .i64 at', .int .i64 n] w fun e w' => e = .returned (.tuple #[.slice (some ⟨w.heap.size + 1, 0, none⟩) n n, .nilIface]) ∧ Span w n at' B w' := by
  have hmk := mk_bytes n (by omega)
  have hm := method_readAt
  have HB0 : Hid (∀ o, Below w.heap.size w ((w.alloc o).alloc (.cells (madeCells #[.int .u8 0] n) 5))) := fun o => ((Below.refl _ _).alloc (Nat.le_refl _) _).alloc (by simp) _
  have HQ0 : Hid (∀ o, Row ((w.alloc o).alloc (.cells (madeCells #[.int .u8 0] n) 5)) (w.heap.size + 1) n (fun _ => 0)) := fun o => by
    have := Row.made (w.alloc o) n
    rwa [show (w.alloc o).heap.size = w.heap.size + 1 by simp] at this
  have HRB : Hid (w.heap[rb]? = some (.cells #[.slice (some ⟨P, 0, none⟩) len len, .int .i64 0, .int .i64 (-1)] 141 (0, 0))) := hrb
  have HP : Hid (Row w P len B) := hP
  have hrl : rb < w.heap.size := (Array.getElem?_eq_some_iff.1 hrb).1
  have hpl : P < w.heap.size := hP.lt
  clear hrb hP
  go_enter Tryf.func70, Tryf.ntmps70
  go_wp2_with fail
  refine (readAt_any rb P len (w.heap.size + 1) n n n at' B (fun _ => 0) _ ((HB0.out _).block rb hrl |>.trans HRB.out) (HP.out.below (HB0.out _) hpl) (HQ0.out _) hn (Nat.le_refl _) hat hlen).mono ?_
  rintro e w3 ⟨rfl, h3⟩
  have H3 : Hid (Span w n at' B w3) := ⟨h3.1.congr (fun i hi => by rw [if_pos hi]), (HB0.out _).trans (h3.2.below _ (by omega))⟩
  clear h3
  go_wp2
  go_ret2
  exact ⟨rfl, H3.out⟩

set_option maxRecDepth 100000 in
set_option maxHeartbeats 1000000 in
theorem fullHead_any (rb P len bd en : Nat) (m : Int) (t0 t1 t2 t3 st : Int) (B : Nat → Int) (w : World) (hrb : w.heap[rb]? = some (.cells #[.slice (some ⟨P, 0, none⟩) len len, .int .i64 0, .int .i64 (-1)] 141 (0, 0)))
    (hP : Row w P len B) (hB : Byte B) (h8 : bd + 8 ≤ en) (hen : en ≤ len) (hlen : len ≤ 1048576) (hm0 : (en : Int) - bd ≤ m) (hm1 : m ≤ 1048576) :
    Calls Tryf.prog 63 #[.iface 90 (.pointer (some ⟨rb, 0, none⟩)), boxV t0 t1 t2 t3 st bd en, .int .i64 m] w fun e w' => e = .returned (.tuple #[.int .u8 (B bd), .int .u32 (be24 B bd), .slice (some ⟨w.heap.size + 1 + 1, 4, none⟩) (en - bd - 4) (en - bd - 4), .int .i64 ((en : Int) - bd - 4), .nilIface]) ∧ Row w' (w.heap.size + 1 + 1) (en - bd) (fun i => B (bd + i)) ∧ Below w.heap.size w w' := by
  have HRB : Hid (w.heap[rb]? = some (.cells #[.slice (some ⟨P, 0, none⟩) len len, .int .i64 0, .int .i64 (-1)] 141 (0, 0))) := hrb
  have HP : Hid (Row w P len B) := hP
  have HB0 : Hid (∀ o, Below w.heap.size w (w.alloc o)) := fun o => (Below.refl _ _).alloc (Nat.le_refl _) _
  have hrl : rb < w.heap.size := (Array.getElem?_eq_some_iff.1 hrb).1
  have hpl : P < w.heap.size := hP.lt
  have HBy : Hid (Byte B) := hB
  clear hrb hP hB
  go_enter Tryf.func63, Tryf.ntmps63
  go_wp2_with fail
  rw [show (en : Int) - (bd : Int) = ((en - bd : Nat) : Int) by omega]
  refine (readSpan_any rb P len (en - bd) bd t0 t1 t2 t3 st bd en B _ ((HB0.out _).block rb hrl |>.trans HRB.out) (HP.out.below (HB0.out _) hpl) (by omega) (by omega) hlen).mono ?_
  rintro e w3 ⟨rfl, h3⟩
  rw [show (w.alloc (.cells #[.int .u8 t0, .int .u8 t1, .int .u8 t2, .int .u8 t3, .int .i64 st, .int .i64 bd, .int .i64 en] 114)).heap.size = w.heap.size + 1 by simp]
  have H3 : Hid (Row w3 (w.heap.size + 1 + 1) (en - bd) (fun i => B (bd + i)) ∧ Below w.heap.size w w3) := by
    have h4 := h3.row
    rw [show (w.alloc (.cells #[.int .u8 t0, .int .u8 t1, .int .u8 t2, .int .u8 t3, .int .i64 st, .int .i64 bd, .int .i64 en] 114)).heap.size = w.heap.size + 1 by simp] at h4
    exact ⟨h4, (HB0.out _).trans (h3.below.mono (by simp))⟩
  have aC : ∀ i, w3.cell? ⟨w.heap.size, i, none⟩ = (#[.int .u8 t0, .int .u8 t1, .int .u8 t2, .int .u8 t3, .int .i64 st, .int .i64 bd, .int .i64 en] : Array Value)[i]? := by
    intro i
    rw [h3.below.cell (by simp)]
    exact alloc_cell _ _ _ _
  clear h3
  have c0 : w3.cell? ⟨w.heap.size + 1 + 1, 0, none⟩ = some (.int .u8 (B bd)) := by have := H3.out.1.bytes 0 (by omega); simpa using this
  have c1 : w3.cell? ⟨w.heap.size + 1 + 1, 1, none⟩ = some (.int .u8 (B (bd + 1))) := by have := H3.out.1.bytes 1 (by omega); simpa using this
  have c2 : w3.cell? ⟨w.heap.size + 1 + 1, 2, none⟩ = some (.int .u8 (B (bd + 2))) := by have := H3.out.1.bytes 2 (by omega); simpa using this
  have c3 : w3.cell? ⟨w.heap.size + 1 + 1, 3, none⟩ = some (.int .u8 (B (bd + 3))) := by have := H3.out.1.bytes 3 (by omega); simpa using this
  have b1 := HBy.out (bd + 1); have b2 := HBy.out (bd + 2); have b3 := HBy.out (bd + 3)
  have hd4 : 4 < en - bd := by omega
  have E1 : Hid (be24 B bd = B (bd + 1) * 65536 + B (bd + 2) * 256 + B (bd + 3)) := rfl
  go_wp2
  go_quiet (fail)
  go_wp2
  refine bodyPost_ret (v := .tuple #[.int .u8 (B bd), .int .u32 (bits .or .u32 (bits .or .u32 (B (bd + 1) * 65536) (B (bd + 2) * 256)) (B (bd + 3))), .slice (some ⟨w.heap.size + 1 + 1, 4, none⟩) (en - bd - 4) (en - bd - 4), .int .i64 ((en : Int) - bd - 4), .nilIface]) (by simp [results, Tryf.results63, go_sem]) rfl ⟨?_, H3.out.1.drewN _, below_drewN H3.out.2 _⟩
  rw [be24_join b1 b2 b3, E1.out]

set_option maxRecDepth 100000 in
set_option maxHeartbeats 1000000 in
theorem fullPayload_any (rb P len bd en : Nat) (t0 t1 t2 t3 st : Int) (B : Nat → Int) (w : World) (hrb : w.heap[rb]? = some (.cells #[.slice (some ⟨P, 0, none⟩) len len, .int .i64 0, .int .i64 (-1)] 141 (0, 0)))
    (hP : Row w P len B) (hB : Byte B) (h8 : bd + 8 ≤ en) (hen : en ≤ len) (hlen : len ≤ 1048576) :
    Calls Tryf.prog 52 #[.iface 90 (.pointer (some ⟨rb, 0, none⟩)), boxV t0 t1 t2 t3 st bd en] w fun e w' => e = .returned (.tuple #[.int .u8 (B bd), .int .u32 (be24 B bd), .slice (some ⟨w.heap.size + 1 + 1 + 1, 4, none⟩) (en - bd - 4) (en - bd - 4), .nilIface]) ∧ Row w' (w.heap.size + 1 + 1 + 1) (en - bd) (fun i => B (bd + i)) ∧ Below w.heap.size w w' := by
  have HRB : Hid (w.heap[rb]? = some (.cells #[.slice (some ⟨P, 0, none⟩) len len, .int .i64 0, .int .i64 (-1)] 141 (0, 0))) := hrb
  have HP : Hid (Row w P len B) := hP
  have HB0 : Hid (∀ o, Below w.heap.size w (w.alloc o)) := fun o => (Below.refl _ _).alloc (Nat.le_refl _) _
  have hrl : rb < w.heap.size := (Array.getElem?_eq_some_iff.1 hrb).1
  have hpl : P < w.heap.size := hP.lt
  have HBy : Hid (Byte B) := hB
  clear hrb hP hB
  go_enter Tryf.func52, Tryf.ntmps52
  go_wp2_with fail
  refine (fullHead_any rb P len bd en _ t0 t1 t2 t3 st B _ ((HB0.out _).block rb hrl |>.trans HRB.out) (HP.out.below (HB0.out _) hpl) HBy.out h8 hen hlen (Int.le_refl _) (by omega)).mono ?_
  rintro e w3 ⟨rfl, h3⟩
  rw [show (w.alloc (.cells #[.int .u8 t0, .int .u8 t1, .int .u8 t2, .int .u8 t3, .int .i64 st, .int .i64 bd, .int .i64 en] 114)).heap.size = w.heap.size + 1 by simp] at h3 ⊢
  have H3 : Hid (Row w3 (w.heap.size + 1 + 1 + 1) (en - bd) (fun i => B (bd + i)) ∧ Below w.heap.size w w3) := ⟨h3.1, (HB0.out _).trans (h3.2.mono (by omega))⟩
  clear h3
  go_wp2
  exact bodyPost_ret (v := .tuple #[.int .u8 (B bd), .int .u32 (be24 B bd), .slice (some ⟨w.heap.size + 1 + 1 + 1, 4, none⟩) (en - bd - 4) (en - bd - 4), .nilIface]) (by simp [results, Tryf.results52, go_sem]) rfl ⟨rfl, H3.out⟩
end Go.Proofs.Qxb6613648aFmt

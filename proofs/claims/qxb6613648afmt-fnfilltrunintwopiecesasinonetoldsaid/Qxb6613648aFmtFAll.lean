/-
  fillTrun whole.
-/
import Derived.Test.Qxb6613648aFmtFLoop
namespace Go.Proofs.Qxb6613648aFmt
open Go.RowKit
set_option linter.unusedVariables false
set_option linter.unusedSimpArgs false
attribute [local go_sem] setCell_drewN alloc_drewN

set_option maxRecDepth 1000000 in
set_option maxHeartbeats 8000000 in
theorem fill_any (fb mb rb tb sb P len qb cp cn e0 v N wb D L : Nat) (far left a sa fa sz x fl : Int) (hs b hf : Bool) (B : Nat → Int) (w0 wS : World) (E R0 : Nat) (A0 : Int) (O Z : Nat → Int) (Y : Nat → Bool) (w : World) (hFW : FW fb mb rb tb sb P len qb cp cn e0 v N wb D L far left a sa fa sz x fl hs b hf B w0 wS w E R0 A0 O Z Y) (hA : 0 < E → A0 = offAt far a (szOf B e0 v sa sz) E)
    (hN : N ≤ wb) (hND : N ≤ D) (hE : E < cn) (hcn : cn ≤ 65536) (hL : L ≤ 131072) (hR : R0 ≤ 65536) (hv : v ≤ 16) (hen : e0 + cn * v ≤ len) (hlen : len ≤ 1048576) (hsa : 0 ≤ sa → sa + 4 ≤ v) (hfa : 0 ≤ fa → fa + 4 ≤ v) (hB : Byte B) (hsz0 : 0 ≤ sz) (hsz1 : sz ≤ 4294967295) (hx0 : 0 ≤ x) (hx1 : x ≤ 4294967295) (hfl0 : 0 ≤ fl) (hfl1 : fl ≤ 4294967295) (ha0 : -2147483648 ≤ a) (ha1 : a ≤ 4611686020574871552) (hf0 : 0 ≤ far) (hf1 : far ≤ 4611686018427387904) (n : Nat) (hn : n = min L (cn - E)) :
    Calls Tryf.prog 51 #[.pointer (some ⟨wb, 0, none⟩), .slice (some ⟨D, 0, none⟩) L L] w fun e w' => e = .returned (.tuple #[.int .i64 n, .nilIface]) ∧ FW fb mb rb tb sb P len qb cp cn e0 v N wb D L far left a sa fa sz x fl hs b hf B w0 wS w' (E + n) (R0 + n) (if n = 0 then A0 else offAt far a (szOf B e0 v sa sz) (E + n)) (fun j => if j < n then offAt far a (szOf B e0 v sa sz) (E + j) else O j) (fun j => if j < n then (szOf B e0 v sa sz) (E + j) else Z j) (fun j => if j < n then (bits .and .u32 ((fgOf B e0 v fa x fl) (E + j)) 65536 == 0) else Y j) := by
  have HF : Hid (FW fb mb rb tb sb P len qb cp cn e0 v N wb D L far left a sa fa sz x fl hs b hf B w0 wS w E R0 A0 O Z Y) := hFW
  have HAt : Hid (0 < E → A0 = offAt far a (szOf B e0 v sa sz) E) := hA
  have HNu : Hid ((0 ≤ sa → sa + 4 ≤ v) ∧ (0 ≤ fa → fa + 4 ≤ v) ∧ e0 + cn * v ≤ len ∧ Byte B) := ⟨hsa, hfa, hen, hB⟩
  have c0 := hFW.c0
  have c12 := hFW.c12
  have c13 := hFW.c13
  have s4 : w.cell? ⟨sb, 4, none⟩ = some (.slice (some ⟨qb, 0, none⟩) 1 cp) := by simp [World.cell?, hFW.rt.sbh]
  have t1 : w.cell? ⟨qb, 1, none⟩ = some (.int .i64 e0) := hFW.tr.cell (i := 1) (by decide)
  have t2 : w.cell? ⟨qb, 2, none⟩ = some (.int .i64 cn) := hFW.tr.cell (i := 2) (by decide)
  have t3 : w.cell? ⟨qb, 3, none⟩ = some (.int .i64 v) := hFW.tr.cell (i := 3) (by decide)
  have hne : ((E : Int) == (cn : Int)) = false := by simp; omega
  have hnm : (if (cn : Int) - E < L then (cn : Int) - E else (L : Int)) = n := by split <;> omega
  have hnL : n ≤ L := by omega
  have hnc : E + n ≤ cn := by omega
  have lq := lt_of_cell t1
  have lw := lt_of_cell c0
  have ls := lt_of_cell s4
  have hNw : N ≤ w.heap.size := Nat.le_trans hN (Nat.le_of_lt lw)
  clear hFW hA hn hsa hfa hen hB
  go_enter Tryf.func51, Tryf.ntmps51
  go_wp2_with fail
  go_loop [17] (fun _ => True) (fun _ => 0)
  case atStart => exact trivial
  case round =>
    clear hrel
    go_upto_region 2 with fail
    go_quiet (fail)
    go_upto_region 4 with fail
    go_quiet (fail)
    go_upto_region 5 with fail
    go_region
    go_upto_region 6 with fail
    go_cut [9] (fun s wx => s = .int .i64 n ∧ ∃ nd, wx = (w.alloc (.cells #[.int .i64 e0, .int .i64 cn, .int .i64 v] 153)).drewN nd)
    case first =>
      go_region
      go_wp2
      go_meet
      exact ⟨rfl, _, rfl⟩
    case rest =>
      rename_i KB hKB
      obtain ⟨rfl, nd, rfl⟩ := hcut
      refine hKB _ _ ?_
      obtain ⟨n1, n2, n3, n4⟩ := HNu.out
      exact fl_7 fb mb rb tb sb P len qb cp cn e0 v N wb D L far left a sa fa sz x fl hs b hf B w0 wS E R0 w.heap.size n A0 O Z Y _ _ _ _ _ _ _ _ _ _ _ _ _ _ _ _ _ _ _ _ _ _ _ _ _ _ _ _ _ _ _ _ _ _ _ _ _ _ _ _ _ _ _ _ _ _ _ _ _ _ _ _ _ _ _ _ _ _ _ _ _ _ _ _ _ _ _ _ _ _ _ _ _ _ _ _ _ _ _ _ _ _ _ _ _ _ _ _ _ _ _ _ _ _ _ _ _ _ _ _ _ _ _ _ _ _ _ _ _ _ _ _ _ _ _ _ _ _ _ _ _ _ _ _ _ _ _ _ _ _ _ _ _ _ _ _ _ _ _ _ _ _ _ _ _ _ _ _ _ _ _ _ _ _ _ _ _ _ _ _ _ _ _ _ _ _ _ _ _ _ _ _ _ _ _ _ _ _ _ _ _ _ _ _ _ _ _ _ _ _ _ _ _ _ _ _ _ _ _ _ _ _ _ _ _ _ _ _ _ _ _ _ _ _ _ _ _ _ _ _ _ _ _ _ (HF.out.own (below_drewN ((Below.refl _ _).alloc hNw _) nd) (fun j c t f h _ _ => alloc_keep h)) (alloc_new rfl) HAt.out hN hND hE hcn hL hR hv n3 hlen n1 n2 n4 hsz0 hsz1 hx0 hx1 hfl0 hfl1 ha0 ha1 hf0 hf1 hnL hnc (fun w' h => ⟨rfl, h⟩)

set_option maxRecDepth 100000 in
set_option maxHeartbeats 1000000 in
theorem zz_fill (wb D L n : Nat) (R : World → Prop) (w : World) (h : Calls Tryf.prog 51 #[.pointer (some ⟨wb, 0, none⟩), .slice (some ⟨D, 0, none⟩) L L] w fun e w' => e = .returned (.tuple #[.int .i64 n, .nilIface]) ∧ R w') :
    Calls Tryf.prog 38 #[.pointer (some ⟨wb, 0, none⟩), .slice (some ⟨D, 0, none⟩) L L] w fun e w' => e = .returned (.tuple #[.int .i64 n, .nilIface]) ∧ R w' := by
  have HH : Hid (Calls Tryf.prog 51 #[.pointer (some ⟨wb, 0, none⟩), .slice (some ⟨D, 0, none⟩) L L] w fun e w' => e = .returned (.tuple #[.int .i64 n, .nilIface]) ∧ R w') := h
  clear h
  go_enter Tryf.func38, Tryf.ntmps38
  go_wp2_with fail
  refine HH.out.mono ?_
  rintro e w2 ⟨rfl, h2⟩
  go_wp2
  go_ret2
  exact ⟨rfl, h2⟩

theorem zzFill_any (fb mb rb tb sb P len qb cp cn e0 v N wb D L : Nat) (far left a sa fa sz x fl : Int) (hs b hf : Bool) (B : Nat → Int) (w0 wS : World) (E R0 : Nat) (A0 : Int) (O Z : Nat → Int) (Y : Nat → Bool) (w : World) (hFW : FW fb mb rb tb sb P len qb cp cn e0 v N wb D L far left a sa fa sz x fl hs b hf B w0 wS w E R0 A0 O Z Y) (hA : 0 < E → A0 = offAt far a (szOf B e0 v sa sz) E)
    (hN : N ≤ wb) (hND : N ≤ D) (hE : E < cn) (hcn : cn ≤ 65536) (hL : L ≤ 131072) (hR : R0 ≤ 65536) (hv : v ≤ 16) (hen : e0 + cn * v ≤ len) (hlen : len ≤ 1048576) (hsa : 0 ≤ sa → sa + 4 ≤ v) (hfa : 0 ≤ fa → fa + 4 ≤ v) (hB : Byte B) (hsz0 : 0 ≤ sz) (hsz1 : sz ≤ 4294967295) (hx0 : 0 ≤ x) (hx1 : x ≤ 4294967295) (hfl0 : 0 ≤ fl) (hfl1 : fl ≤ 4294967295) (ha0 : -2147483648 ≤ a) (ha1 : a ≤ 4611686020574871552) (hf0 : 0 ≤ far) (hf1 : far ≤ 4611686018427387904) (n : Nat) (hn : n = min L (cn - E)) :
    Calls Tryf.prog 38 #[.pointer (some ⟨wb, 0, none⟩), .slice (some ⟨D, 0, none⟩) L L] w fun e w' => e = .returned (.tuple #[.int .i64 n, .nilIface]) ∧ FW fb mb rb tb sb P len qb cp cn e0 v N wb D L far left a sa fa sz x fl hs b hf B w0 wS w' (E + n) (R0 + n) (if n = 0 then A0 else offAt far a (szOf B e0 v sa sz) (E + n)) (fun j => if j < n then offAt far a (szOf B e0 v sa sz) (E + j) else O j) (fun j => if j < n then (szOf B e0 v sa sz) (E + j) else Z j) (fun j => if j < n then (bits .and .u32 ((fgOf B e0 v fa x fl) (E + j)) 65536 == 0) else Y j) :=
  zz_fill wb D L n (fun w' => FW fb mb rb tb sb P len qb cp cn e0 v N wb D L far left a sa fa sz x fl hs b hf B w0 wS w' (E + n) (R0 + n) (if n = 0 then A0 else offAt far a (szOf B e0 v sa sz) (E + n)) (fun j => if j < n then offAt far a (szOf B e0 v sa sz) (E + j) else O j) (fun j => if j < n then (szOf B e0 v sa sz) (E + j) else Z j) (fun j => if j < n then (bits .and .u32 ((fgOf B e0 v fa x fl) (E + j)) 65536 == 0) else Y j)) w (fill_any fb mb rb tb sb P len qb cp cn e0 v N wb D L far left a sa fa sz x fl hs b hf B w0 wS E R0 A0 O Z Y w hFW hA hN hND hE hcn hL hR hv hen hlen hsa hfa hB hsz0 hsz1 hx0 hx1 hfl0 hfl1 ha0 ha1 hf0 hf1 n hn)
end Go.Proofs.Qxb6613648aFmt

/-
  runSize, runFlags: an entry's size and flags, by the model.
-/
import Derived.Test.Qxb6613648aFmtGuards
namespace Go.Proofs.Qxb6613648aFmt
open Go.RowKit
set_option linter.unusedVariables false

theorem setCell_drewN (w : World) (n : Nat) (a : Addr) (v : Value) : (w.drewN n).setCell a v = (w.setCell a v).drewN n := rfl
theorem alloc_drewN (w : World) (n : Nat) (o : Obj) : (w.drewN n).alloc o = (w.alloc o).drewN n := rfl
attribute [local go_sem] setCell_drewN alloc_drewN

abbrev mV (ok dc : Bool) (n at' ent en wd sa fa fs ff : Int) (fhs fhf : Bool) : Value := .agg #[.bool ok, .bool dc, .int .i64 n, .int .i64 at', .int .i64 ent, .int .i64 en, .int .i64 wd, .int .i64 sa, .int .i64 fa, .int .u32 fs, .int .u32 ff, .bool fhs, .bool fhf]

/-- be32 and flags24 at a part of the file. -/
theorem be32_at (F len o l c : Nat) (B : Nat → Int) (i : Nat) (w : World) (x : Int) (hx : x = be B (o + i)) (hR : Row w F len B) (hB : Byte B) (hl : len ≤ 1048576) (ho : o + l ≤ len) (hi : i + 4 ≤ l) :
    Calls Tryf.prog 21 #[.slice (some ⟨F, o, none⟩) l c, .int .i64 i] w fun e w' => e = .returned (.int .u32 x) ∧ ∃ n, w' = w.drewN n := by
  have h := hR.bytes.part o l ho
  rw [Nat.zero_add] at h
  have := be32_any F o l c (fun i => B (o + i)) i w (by omega) hi h (fun i => hB (o + i))
  rw [hx]
  exact this
theorem flags_at (F len o l c : Nat) (B : Nat → Int) (w : World) (x : Int) (hx : x = be24 B o) (hR : Row w F len B) (hB : Byte B) (hl : len ≤ 1048576) (ho : o + l ≤ len) (hi : 4 ≤ l) :
    Calls Tryf.prog 35 #[.slice (some ⟨F, o, none⟩) l c] w fun e w' => e = .returned (.int .u32 x) ∧ ∃ n, w' = w.drewN n := by
  have h := hR.bytes.part o l ho
  rw [Nat.zero_add] at h
  have := flags_any F o l c (fun i => B (o + i)) w (by omega) hi h (fun i => hB (o + i))
  rw [hx]
  exact this

/-- The size of entry j; its flags. -/
def szOf (B : Nat → Int) (ent wd sa sz : Int) (j : Nat) : Int := if 0 ≤ sa then be B (ent + j * wd + sa).toNat else sz
def fgOf (B : Nat → Int) (ent wd fa ff fl : Int) (j : Nat) : Int := if 0 ≤ fa then be B (ent + j * wd + fa).toNat else if j = 0 then ff else fl

theorem szOf_bd {B : Nat → Int} (hB : Byte B) (ent wd sa sz : Int) (h0 : 0 ≤ sz) (h1 : sz ≤ 4294967295) (j : Nat) : 0 ≤ szOf B ent wd sa sz j ∧ szOf B ent wd sa sz j ≤ 4294967295 := by
  unfold szOf
  split
  · exact be_bd hB _
  · exact ⟨h0, h1⟩

set_option maxRecDepth 100000 in
set_option maxHeartbeats 1000000 in
theorem runSize_any (F len cap : Nat) (B : Nat → Int) (ok dc : Bool) (n at' ent en wd sa fa fs ff : Int) (fhs fhf : Bool) (sz fl : Int) (hs hf : Bool) (j : Nat) (w : World) (hR : Row w F len B) (hB : Byte B) (hl : len ≤ 1048576)
    (he0 : 0 ≤ ent) (hw0 : 0 ≤ wd) (hw1 : wd ≤ 16) (hj : j ≤ 65536) (hsa : sa ≤ 16) (hin : 0 ≤ sa → ent + j * wd + sa + 4 ≤ len) :
    Calls Tryf.prog 41 #[.slice (some ⟨F, 0, none⟩) len cap, mV ok dc n at' ent en wd sa fa fs ff fhs fhf, defV sz fl hs hf, .int .i64 j] w fun e w' => e = .returned (.int .u32 (szOf B ent wd sa sz j)) ∧ Below w.heap.size w w' := by
  have hjw : 0 ≤ (j : Int) * wd ∧ (j : Int) * wd ≤ 1048576 := by
    refine ⟨Int.mul_nonneg (by omega) hw0, ?_⟩
    calc (j : Int) * wd ≤ (j : Int) * 16 := Int.mul_le_mul_of_nonneg_left hw1 (by omega)
      _ ≤ 1048576 := by omega
  by_cases h : 0 ≤ sa
  · have hx : szOf B ent wd sa sz j = be B (0 + (ent + j * wd + sa).toNat) := by unfold szOf; rw [if_pos h, Nat.zero_add]
    have hin' := hin h
    obtain ⟨k, hk⟩ : ∃ k : Nat, (k : Int) = ent + j * wd + sa := ⟨(ent + j * wd + sa).toNat, by omega⟩
    have HX : Hid (szOf B ent wd sa sz j = be B (0 + k)) := by show _ = _; rw [hx]; congr 1; omega
    have HR : Hid (Row w F len B) := hR
    have HB : Hid (Byte B) := hB
    have HK : Hid ((k : Int) = ent + j * wd + sa) := hk
    have hee : ent ≤ 1048576 := by omega
    have hk4 : k + 4 ≤ len := by omega
    have hlt := hR.lt
    clear hx hR hB hk hin hin'
    go_enter Tryf.func41, Tryf.ntmps41
    go_wp2_with fail
    rw [← HK.out]
    refine (be32_at F len 0 len cap B k _ _ HX.out (HR.out.below (((Below.refl _ w).alloc (Nat.le_refl _) _).alloc (by simp) _) hlt) HB.out hl (by omega) hk4).mono ?_
    rintro e w1 ⟨rfl, n1, rfl⟩
    go_wp2
    go_ret
    exact ⟨rfl, below_drewN (((Below.refl _ w).alloc (Nat.le_refl _) _).alloc (by simp) _) n1⟩
  · have HX : Hid (szOf B ent wd sa sz j = sz) := by show _ = _; unfold szOf; rw [if_neg h]
    clear hR hB hin
    go_enter Tryf.func41, Tryf.ntmps41
    go_wp2
    go_ret
    exact ⟨ret_int HX.out.symm, ((Below.refl _ w).alloc (Nat.le_refl _) _).alloc (by simp) _⟩

set_option maxRecDepth 100000 in
set_option maxHeartbeats 1000000 in
theorem runFlags_any (F len cap : Nat) (B : Nat → Int) (ok dc : Bool) (n at' ent en wd sa fa fs ff : Int) (fhs fhf : Bool) (sz fl : Int) (hs hf : Bool) (j : Nat) (w : World) (hR : Row w F len B) (hB : Byte B) (hl : len ≤ 1048576)
    (he0 : 0 ≤ ent) (hw0 : 0 ≤ wd) (hw1 : wd ≤ 16) (hj : j ≤ 65536) (hfa : fa ≤ 16) (hin : 0 ≤ fa → ent + j * wd + fa + 4 ≤ len) :
    Calls Tryf.prog 42 #[.slice (some ⟨F, 0, none⟩) len cap, mV ok dc n at' ent en wd sa fa fs ff fhs fhf, defV sz fl hs hf, .int .i64 j] w fun e w' => e = .returned (.int .u32 (fgOf B ent wd fa ff fl j)) ∧ Below w.heap.size w w' := by
  have hjw : 0 ≤ (j : Int) * wd ∧ (j : Int) * wd ≤ 1048576 := by
    refine ⟨Int.mul_nonneg (by omega) hw0, ?_⟩
    calc (j : Int) * wd ≤ (j : Int) * 16 := Int.mul_le_mul_of_nonneg_left hw1 (by omega)
      _ ≤ 1048576 := by omega
  by_cases h : 0 ≤ fa
  · have hx : fgOf B ent wd fa ff fl j = be B (0 + (ent + j * wd + fa).toNat) := by unfold fgOf; rw [if_pos h, Nat.zero_add]
    have hin' := hin h
    obtain ⟨k, hk⟩ : ∃ k : Nat, (k : Int) = ent + j * wd + fa := ⟨(ent + j * wd + fa).toNat, by omega⟩
    have HX : Hid (fgOf B ent wd fa ff fl j = be B (0 + k)) := by show _ = _; rw [hx]; congr 1; omega
    have HR : Hid (Row w F len B) := hR
    have HB : Hid (Byte B) := hB
    have HK : Hid ((k : Int) = ent + j * wd + fa) := hk
    have hee : ent ≤ 1048576 := by omega
    have hk4 : k + 4 ≤ len := by omega
    have hlt := hR.lt
    clear hx hR hB hk hin hin'
    go_enter Tryf.func42, Tryf.ntmps42
    go_wp2_with fail
    rw [← HK.out]
    refine (be32_at F len 0 len cap B k _ _ HX.out (HR.out.below (((Below.refl _ w).alloc (Nat.le_refl _) _).alloc (by simp) _) hlt) HB.out hl (by omega) hk4).mono ?_
    rintro e w1 ⟨rfl, n1, rfl⟩
    go_wp2
    go_ret
    exact ⟨rfl, below_drewN (((Below.refl _ w).alloc (Nat.le_refl _) _).alloc (by simp) _) n1⟩
  · clear hR hB hin
    by_cases h0 : j = 0
    · have HX : Hid (fgOf B ent wd fa ff fl j = ff) := by show _ = _; unfold fgOf; rw [if_neg h, if_pos h0]
      have h0' : ((j : Int) == 0) = true := by simp [h0]
      clear h0
      go_enter Tryf.func42, Tryf.ntmps42
      go_wp2
      go_ret
      exact ⟨ret_int HX.out.symm, ((Below.refl _ w).alloc (Nat.le_refl _) _).alloc (by simp) _⟩
    · have HX : Hid (fgOf B ent wd fa ff fl j = fl) := by show _ = _; unfold fgOf; rw [if_neg h, if_neg h0]
      have h0' : ((j : Int) == 0) = false := by simp [h0]
      clear h0
      go_enter Tryf.func42, Tryf.ntmps42
      go_wp2
      go_ret
      exact ⟨ret_int HX.out.symm, ((Below.refl _ w).alloc (Nat.le_refl _) _).alloc (by simp) _⟩
end Go.Proofs.Qxb6613648aFmt

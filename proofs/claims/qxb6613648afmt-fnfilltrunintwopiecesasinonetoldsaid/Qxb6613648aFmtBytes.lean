/-
  Bytes and the numbers that they spell: be32, flags24, bit, minI64, minInt, binary.BigEndian.Uint32.
-/
import Derived.Test.Qxb6613648aFmtProg
import Derived.WalkKit
import Derived.WalkSpells
import Derived.WalkLawsBesides
import Derived.WalkSmall
import Derived.Deep.QuietTactic
import Derived.BigQuiet
import Derived.Lib.EndianBits
namespace Go.Proofs.Qxb6613648aFmt
open Go.RowKit
/-- n bytes from offset o of block b on: B 0, B 1, .. -/
def Bytes (w : World) (b o n : Nat) (B : Nat → Int) : Prop := ∀ i, i < n → w.cell? ⟨b, o + i, none⟩ = some (.int .u8 (B i))
/-- Each a byte. -/
def Byte (B : Nat → Int) : Prop := ∀ i, 0 ≤ B i ∧ B i ≤ 255
/-- The number that four bytes spell. -/
def be (B : Nat → Int) (i : Nat) : Int := B i * 16777216 + B (i + 1) * 65536 + B (i + 2) * 256 + B (i + 3)
/-- The number that the three bytes behind the first spell. -/
def be24 (B : Nat → Int) (i : Nat) : Int := B (i + 1) * 65536 + B (i + 2) * 256 + B (i + 3)

theorem be_bd {B : Nat → Int} (hB : Byte B) (i : Nat) : 0 ≤ be B i ∧ be B i ≤ 4294967295 := by
  have b0 := hB i; have b1 := hB (i + 1); have b2 := hB (i + 2); have b3 := hB (i + 3)
  unfold be; omega
theorem be24_bd {B : Nat → Int} (hB : Byte B) (i : Nat) : 0 ≤ be24 B i ∧ be24 B i ≤ 16777215 := by
  have b1 := hB (i + 1); have b2 := hB (i + 2); have b3 := hB (i + 3)
  unfold be24; omega

theorem Bytes.part {w : World} {b o n : Nat} {B : Nat → Int} (h : Bytes w b o n B) (k m : Nat) (hk : k + m ≤ n) : Bytes w b (o + k) m (fun i => B (k + i)) := by
  intro i hi
  have := h (k + i) (by omega)
  rw [show o + k + i = o + (k + i) by omega]
  exact this
theorem Bytes.below {w w' : World} {N b o n : Nat} {B : Nat → Int} (h : Bytes w b o n B) (hb : Below N w w') (hN : b < N) : Bytes w' b o n B := fun i hi => (hb.cell hN).trans (h i hi)
theorem Bytes.drewN {w : World} {b o n : Nat} {B : Nat → Int} (h : Bytes w b o n B) (m : Nat) : Bytes (w.drewN m) b o n B := h

theorem hi8 {x y : Int} (hx₀ : 0 ≤ x) (hx : x % 256 = 0) (hx₁ : x < 4294967296) (hy₀ : 0 ≤ y) (hy : y < 256) : bits .or .u32 x y = x + y :=
  bits_join .u32 32 (by decide) wraps_u32 8 x y hx₀ (by simpa using hx) (by simpa using hx₁) hy₀ (by simpa using hy) (by show y < 4294967296; omega)
theorem hi16 {x y : Int} (hx₀ : 0 ≤ x) (hx : x % 65536 = 0) (hx₁ : x < 4294967296) (hy₀ : 0 ≤ y) (hy : y < 65536) : bits .or .u32 x y = x + y :=
  bits_join .u32 32 (by decide) wraps_u32 16 x y hx₀ (by simpa using hx) (by simpa using hx₁) hy₀ (by simpa using hy) (by show y < 4294967296; omega)
theorem hi24 {x y : Int} (hx₀ : 0 ≤ x) (hx : x % 16777216 = 0) (hx₁ : x < 4294967296) (hy₀ : 0 ≤ y) (hy : y < 16777216) : bits .or .u32 x y = x + y :=
  bits_join .u32 32 (by decide) wraps_u32 24 x y hx₀ (by simpa using hx) (by simpa using hx₁) hy₀ (by simpa using hy) (by show y < 4294967296; omega)

theorem be_join {b0 b1 b2 b3 : Int} (h0 : 0 ≤ b0 ∧ b0 ≤ 255) (h1 : 0 ≤ b1 ∧ b1 ≤ 255) (h2 : 0 ≤ b2 ∧ b2 ≤ 255) (h3 : 0 ≤ b3 ∧ b3 ≤ 255) :
    bits .or .u32 (bits .or .u32 (bits .or .u32 (b0 * 16777216) (b1 * 65536)) (b2 * 256)) b3 = b0 * 16777216 + b1 * 65536 + b2 * 256 + b3 := by
  rw [hi24 (x := b0 * 16777216) (by omega) (by omega) (by omega) (by omega) (by omega), hi16 (x := b0 * 16777216 + b1 * 65536) (y := b2 * 256) (by omega) (by omega) (by omega) (by omega) (by omega), hi8 (by omega) (by omega) (by omega) (by omega) (by omega)]
theorem be24_join {b1 b2 b3 : Int} (h1 : 0 ≤ b1 ∧ b1 ≤ 255) (h2 : 0 ≤ b2 ∧ b2 ≤ 255) (h3 : 0 ≤ b3 ∧ b3 ≤ 255) :
    bits .or .u32 (bits .or .u32 (b1 * 65536) (b2 * 256)) b3 = b1 * 65536 + b2 * 256 + b3 := by
  rw [hi16 (x := b1 * 65536) (by omega) (by omega) (by omega) (by omega) (by omega), hi8 (by omega) (by omega) (by omega) (by omega) (by omega)]
theorem be_join_low {b0 b1 b2 b3 : Int} (h0 : 0 ≤ b0 ∧ b0 ≤ 255) (h1 : 0 ≤ b1 ∧ b1 ≤ 255) (h2 : 0 ≤ b2 ∧ b2 ≤ 255) (h3 : 0 ≤ b3 ∧ b3 ≤ 255) :
    bits .or .u32 (bits .or .u32 (bits .or .u32 b3 (b2 * 256)) (b1 * 65536)) (b0 * 16777216) = b0 * 16777216 + b1 * 65536 + b2 * 256 + b3 := by
  rw [u32_or8 (y := b3) (x := b2 * 256) (by omega) (by omega) (by omega) (by omega) (by omega), u32_or16 (y := b3 + b2 * 256) (x := b1 * 65536) (by omega) (by omega) (by omega) (by omega) (by omega), u32_or24 _ _ (by omega) (by omega) (by omega) (by omega) (by omega)]
  omega

theorem ret_int {k : IntKind} {a b : Int} (h : a = b) : Ending.returned (.int k a) = .returned (.int k b) := by rw [h]

set_option maxHeartbeats 1000000 in
theorem be32_any (b o len cap : Nat) (B : Nat → Int) (i : Nat) (w : World) (hl : len ≤ 1048576) (hi : i + 4 ≤ len) (h : Bytes w b o len B) (hB : Byte B) :
    Calls Tryf.prog 21 #[.slice (some ⟨b, o, none⟩) len cap, .int .i64 i] w fun e w' => e = .returned (.int .u32 (be B i)) ∧ ∃ n, w' = w.drewN n := by
  have c0 := h i (by omega)
  have c1 := h (i + 1) (by omega)
  have c2 := h (i + 2) (by omega)
  have c3 := h (i + 3) (by omega)
  have b0 := hB i; have b1 := hB (i + 1); have b2 := hB (i + 2); have b3 := hB (i + 3)
  have HV : Hid (be B i = B i * 16777216 + B (i + 1) * 65536 + B (i + 2) * 256 + B (i + 3)) := rfl
  clear h hB
  have i0 : i < len := by omega
  have i1 : (i : Int) + 1 < len := by omega
  have i2 : (i : Int) + 2 < len := by omega
  have i3 : (i : Int) + 3 < len := by omega
  go_enter Tryf.func21, Tryf.ntmps21
  go_wp2
  go_quiet (fail)
  go_wp2
  go_ret
  exact ⟨ret_int ((be_join b0 b1 b2 b3).trans HV.out.symm), _, rfl⟩

set_option maxHeartbeats 1000000 in
theorem flags_any (b o len cap : Nat) (B : Nat → Int) (w : World) (hl : len ≤ 1048576) (hi : 4 ≤ len) (h : Bytes w b o len B) (hB : Byte B) :
    Calls Tryf.prog 35 #[.slice (some ⟨b, o, none⟩) len cap] w fun e w' => e = .returned (.int .u32 (be24 B 0)) ∧ ∃ n, w' = w.drewN n := by
  have c1 := h 1 (by omega)
  have c2 := h 2 (by omega)
  have c3 := h 3 (by omega)
  have b1 := hB 1; have b2 := hB 2; have b3 := hB 3
  have HV : Hid (be24 B 0 = B 1 * 65536 + B 2 * 256 + B 3) := rfl
  clear h hB
  have i1 : (1 : Int) < len := by omega
  have i2 : (2 : Int) < len := by omega
  have i3 : (3 : Int) < len := by omega
  go_enter Tryf.func35, Tryf.ntmps35
  go_wp2
  go_quiet (fail)
  go_wp2
  go_ret
  exact ⟨ret_int ((be24_join b1 b2 b3).trans HV.out.symm), _, rfl⟩

set_option maxHeartbeats 1000000 in
theorem u32_any (b o len cap : Nat) (B : Nat → Int) (w : World) (hl : len ≤ 1048576) (hi : 4 ≤ len) (h : Bytes w b o 4 B) (hB : Byte B) :
    Calls Tryf.prog 60 #[.agg #[], .slice (some ⟨b, o, none⟩) len cap] w fun e w' => e = .returned (.int .u32 (be B 0)) ∧ ∃ n, w' = (w.alloc (.cells #[] 163)).drewN n := by
  have c0 := h 0 (by omega)
  have c1 := h 1 (by omega)
  have c2 := h 2 (by omega)
  have c3 := h 3 (by omega)
  rw [Nat.add_zero] at c0
  have hlt : b < w.heap.size := by
    rcases Nat.lt_or_ge b w.heap.size with h | h
    · exact h
    · simp [World.cell?, Array.getElem?_eq_none h] at c0
  have b0 := hB 0; have b1 := hB 1; have b2 := hB 2; have b3 := hB 3
  have HV : Hid (be B 0 = B 0 * 16777216 + B 1 * 65536 + B 2 * 256 + B 3) := rfl
  clear h hB
  have i0 : 0 < len := by omega
  have i1 : (1 : Int) < len := by omega
  have i2 : (2 : Int) < len := by omega
  have i3 : (3 : Int) < len := by omega
  go_enter Tryf.func60, Tryf.ntmps60
  go_wp2
  go_quiet (fail)
  go_wp2
  go_ret
  exact ⟨ret_int ((be_join_low b0 b1 b2 b3).trans HV.out.symm), _, rfl⟩

/-- Is a bit of the mask set? -/
def hasBit (f m : Int) : Bool := bits .and .u32 f m != 0
def bitI (f m : Int) : Int := if hasBit f m then 1 else 0
theorem bitI_bd (f m : Int) : 0 ≤ bitI f m ∧ bitI f m ≤ 1 := by unfold bitI; split <;> omega

set_option maxHeartbeats 400000 in
theorem bit_any (f m : Int) (w : World) : Calls Tryf.prog 45 #[.int .u32 f, .int .u32 m] w fun e w' => e = .returned (.int .i64 (bitI f m)) ∧ w' = w := by
  cases h : (bits .and .u32 f m != 0)
  · have HV : Hid (bitI f m = 0) := by show bitI f m = 0; unfold bitI hasBit; rw [h]; rfl
    go_enter Tryf.func45, Tryf.ntmps45
    go_wp2
    go_ret
    exact ⟨ret_int HV.out.symm, rfl⟩
  · have HV : Hid (bitI f m = 1) := by show bitI f m = 1; unfold bitI hasBit; rw [h]; rfl
    go_enter Tryf.func45, Tryf.ntmps45
    go_wp2
    go_ret
    exact ⟨ret_int HV.out.symm, rfl⟩

theorem minI_any (a b : Int) (w : World) : Calls Tryf.prog 40 #[.int .i64 a, .int .i64 b] w fun e w' => e = .returned (.int .i64 (min a b)) ∧ w' = w := by
  by_cases h : a < b
  · have HV : Hid (min a b = a) := by show min a b = a; omega
    go_enter Tryf.func40, Tryf.ntmps40
    go_wp2
    go_ret
    exact ⟨ret_int HV.out.symm, rfl⟩
  · have HV : Hid (min a b = b) := by show min a b = b; omega
    go_enter Tryf.func40, Tryf.ntmps40
    go_wp2
    go_ret
    exact ⟨ret_int HV.out.symm, rfl⟩
theorem minInt_any (a b : Int) (w : World) : Calls Tryf.prog 39 #[.int .i64 a, .int .i64 b] w fun e w' => e = .returned (.int .i64 (min a b)) ∧ w' = w := by
  by_cases h : a < b
  · have HV : Hid (min a b = a) := by show min a b = a; omega
    go_enter Tryf.func39, Tryf.ntmps39
    go_wp2
    go_ret
    exact ⟨ret_int HV.out.symm, rfl⟩
  · have HV : Hid (min a b = b) := by show min a b = b; omega
    go_enter Tryf.func39, Tryf.ntmps39
    go_wp2
    go_ret
    exact ⟨ret_int HV.out.symm, rfl⟩
end Go.Proofs.Qxb6613648aFmt

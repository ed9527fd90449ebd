/-
  The guards on the input: zzBytes_.., boxInFile, trunGuards.
-/
import Derived.Test.Qxb6613648aFmtClone
namespace Go.Proofs.Qxb6613648aFmt
open Go.RowKit
set_option linter.unusedVariables false

/-- A Box, a Defaults, as values. -/
abbrev boxV (t0 t1 t2 t3 st bd en : Int) : Value := .agg #[.int .u8 t0, .int .u8 t1, .int .u8 t2, .int .u8 t3, .int .i64 st, .int .i64 bd, .int .i64 en]
abbrev defV (sz fl : Int) (hs hf : Bool) : Value := .agg #[.int .u32 sz, .int .u32 fl, .bool hs, .bool hf]

def YesNo (p : Prop) (e : Ending) : Prop := ∃ r : Bool, e = .returned (.bool r) ∧ (r = true → p)
theorem YesNo.no {p : Prop} : YesNo p (.returned (.bool false)) := ⟨false, rfl, fun h => by cases h⟩
theorem YesNo.yes {p : Prop} (h : p) : YesNo p (.returned (.bool true)) := ⟨true, rfl, fun _ => h⟩

set_option maxHeartbeats 1000000 in
theorem bytes36 (a : Option Addr) (len cap : Nat) (far left t0 t1 t2 t3 st bd en sz fl : Int) (hs hf : Bool) (base next dl : Int) (w : World) (hl : len ≤ maxLen) :
    Calls Tryf.prog 36 #[.slice a len cap, .int .i64 far, .int .u64 left, boxV t0 t1 t2 t3 st bd en, defV sz fl hs hf, .int .i64 base, .int .i64 next, .int .i64 dl] w fun e w' => YesNo (len ≤ 1048576) e ∧ Below w.heap.size w w' := by
  unfold maxLen at hl
  by_cases h : len ≤ 1048576
  · go_enter Tryf.func36, Tryf.ntmps36
    go_wp2
    go_ret
    exact ⟨.yes h, ((Below.refl _ _).alloc (Nat.le_refl _) _).alloc (by simp) _⟩
  · go_enter Tryf.func36, Tryf.ntmps36
    go_wp2
    go_ret
    exact ⟨.no, ((Below.refl _ _).alloc (Nat.le_refl _) _).alloc (by simp) _⟩

set_option maxHeartbeats 1000000 in
theorem bytes44 (a : Option Addr) (len cap : Nat) (far left t0 t1 t2 t3 st bd en sz fl : Int) (hs hf : Bool) (base next hd tl : Int) (w : World) (hl : len ≤ maxLen) :
    Calls Tryf.prog 44 #[.slice a len cap, .int .i64 far, .int .u64 left, boxV t0 t1 t2 t3 st bd en, defV sz fl hs hf, .int .i64 base, .int .i64 next, .int .i64 hd, .int .i64 tl] w fun e w' => YesNo (len ≤ 1048576) e ∧ Below w.heap.size w w' := by
  unfold maxLen at hl
  by_cases h : len ≤ 1048576
  · go_enter Tryf.func44, Tryf.ntmps44
    go_wp2
    go_ret
    exact ⟨.yes h, ((Below.refl _ _).alloc (Nat.le_refl _) _).alloc (by simp) _⟩
  · go_enter Tryf.func44, Tryf.ntmps44
    go_wp2
    go_ret
    exact ⟨.no, ((Below.refl _ _).alloc (Nat.le_refl _) _).alloc (by simp) _⟩

structure InFile (st bd en : Int) (n : Nat) : Prop where
  s0 : 0 ≤ st
  sb : st ≤ bd
  be : bd ≤ en
  en : en ≤ n

set_option maxHeartbeats 1000000 in
theorem inFile_any (t0 t1 t2 t3 st bd en : Int) (n : Nat) (w : World) (hn : n ≤ 1048576) :
    Calls Tryf.prog 10 #[boxV t0 t1 t2 t3 st bd en, .int .i64 n] w fun e w' => YesNo (InFile st bd en n) e ∧ Below w.heap.size w w' := by
  by_cases h : 0 ≤ st ∧ st ≤ bd ∧ bd ≤ en ∧ en ≤ n
  · obtain ⟨h1, h2, h3, h4⟩ := h
    go_enter Tryf.func10, Tryf.ntmps10
    go_wp2
    go_ret
    exact ⟨.yes ⟨h1, h2, h3, h4⟩, (Below.refl _ _).alloc (Nat.le_refl _) _⟩
  · have H : Hid (¬ (0 ≤ st ∧ st ≤ bd ∧ bd ≤ en ∧ en ≤ n)) := h
    clear h
    by_cases h1 : 0 ≤ st
    · by_cases h2 : st ≤ bd
      · by_cases h3 : bd ≤ en
        · have h4 : ¬ en ≤ n := fun h => H.out ⟨h1, h2, h3, h⟩
          go_enter Tryf.func10, Tryf.ntmps10
          go_wp2
          go_ret
          exact ⟨.no, (Below.refl _ _).alloc (Nat.le_refl _) _⟩
        · go_enter Tryf.func10, Tryf.ntmps10
          go_wp2
          go_ret
          exact ⟨.no, (Below.refl _ _).alloc (Nat.le_refl _) _⟩
      · go_enter Tryf.func10, Tryf.ntmps10
        go_wp2
        go_ret
        exact ⟨.no, (Below.refl _ _).alloc (Nat.le_refl _) _⟩
    · go_enter Tryf.func10, Tryf.ntmps10
      go_wp2
      go_ret
      exact ⟨.no, (Below.refl _ _).alloc (Nat.le_refl _) _⟩

/-- What trunGuards asks. -/
structure Guards (len : Nat) (far left st bd en base next : Int) : Prop where
  left : left ≤ 65536
  far0 : (len : Int) ≤ far
  far1 : far ≤ 4611686018427387904
  file : InFile st bd en len
  base0 : 0 ≤ base
  base1 : base ≤ far
  next0 : 0 ≤ next
  next1 : next ≤ far

set_option maxHeartbeats 1000000 in
theorem guards_any (a : Option Addr) (len cap : Nat) (far left t0 t1 t2 t3 st bd en base next : Int) (w : World) (hl : len ≤ 1048576) (h0 : 0 ≤ left) :
    Calls Tryf.prog 23 #[.slice a len cap, .int .i64 far, .int .u64 left, boxV t0 t1 t2 t3 st bd en, .int .i64 base, .int .i64 next] w fun e w' => YesNo (Guards len far left st bd en base next) e ∧ Below w.heap.size w w' := by
  by_cases h1 : left ≤ 65536
  case neg =>
    go_enter Tryf.func23, Tryf.ntmps23
    go_wp2
    go_ret
    exact ⟨.no, (Below.refl _ _).alloc (Nat.le_refl _) _⟩
  by_cases h2 : (len : Int) ≤ far
  case neg =>
    go_enter Tryf.func23, Tryf.ntmps23
    go_wp2
    go_ret
    exact ⟨.no, (Below.refl _ _).alloc (Nat.le_refl _) _⟩
  by_cases h3 : far ≤ 4611686018427387904
  case neg =>
    go_enter Tryf.func23, Tryf.ntmps23
    go_wp2
    go_ret
    exact ⟨.no, (Below.refl _ _).alloc (Nat.le_refl _) _⟩
  go_enter Tryf.func23, Tryf.ntmps23
  go_wp2_with fail
  refine (inFile_any t0 t1 t2 t3 st bd en len _ hl).mono ?_
  rintro e w1 ⟨⟨r, rfl, hr⟩, hb⟩
  have HB : Hid (Below w.heap.size w w1) := ((Below.refl _ w).alloc (Nat.le_refl _) _).trans (hb.mono (by simp))
  clear hb
  cases r with
  | false =>
    clear hr
    go_wp2
    go_ret
    exact ⟨.no, HB.out⟩
  | true =>
    have HF : Hid (InFile st bd en len) := hr rfl
    clear hr
    by_cases b0 : 0 ≤ base
    case neg =>
      go_wp2
      go_ret
      exact ⟨.no, HB.out⟩
    by_cases b1 : base ≤ far
    case neg =>
      go_wp2
      go_ret
      exact ⟨.no, HB.out⟩
    by_cases n0 : 0 ≤ next
    case neg =>
      go_wp2
      go_ret
      exact ⟨.no, HB.out⟩
    by_cases n1 : next ≤ far
    case neg =>
      have hd : decide (next ≤ far) = false := by simpa using n1
      go_wp2
      go_ret
      exact ⟨.no, HB.out⟩
    go_wp2
    go_ret
    exact ⟨.yes ⟨h1, h2, h3, HF.out, b0, b1, n0, n1⟩, HB.out⟩
end Go.Proofs.Qxb6613648aFmt

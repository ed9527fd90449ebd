import Derived.Test.Qxb6609069aDoorProg
import Derived.WalkKit
import Derived.WalkSpells
import Derived.WalkLawsBesides
namespace Go.Proofs.Qxb6609069aDoor
open Go.RowKit
set_option maxHeartbeats 400000 in
theorem str_any (a : Int) (s : ByteArray) (w : World) (h0 : 0 ≤ a) (h1 : a < 10) (hc : w.cell? ⟨0, a.toNat, none⟩ = some (.string s)) :
    Calls Tryd.prog 5 #[.int .u8 a] w fun e w' => e = .returned (.string s) ∧ w' = w := by
  go_enter Tryd.func5, Tryd.ntmps5
  go_wp2
  go_ret
  exact ⟨rfl, rfl⟩
theorem shapes_big (a b : Int) (w : World) (h0 : 0 ≤ a) (h1 : a ≤ 255) (h2 : 0 ≤ b) (h3 : b ≤ 255) (h : 10 ≤ a ∨ 10 ≤ b) :
    Calls Tryd.prog 3 #[.int .u8 a, .int .u8 b] w fun e w' => e = .returned (.bool true) ∧ w' = w := by
  by_cases hh : 10 ≤ a
  · go_enter Tryd.func3, Tryd.ntmps3
    go_wp2
    go_ret
    exact ⟨rfl, rfl⟩
  · have hb : 10 ≤ b := by omega
    go_enter Tryd.func3, Tryd.ntmps3
    go_wp2
    go_ret
    exact ⟨rfl, rfl⟩
/-- The shape of a word operator's text. -/
def Wordy (s : ByteArray) : Prop := ∀ i (h : i < s.size), (s[i].toNat = 32 ∧ ∃ h' : i + 1 < s.size, s[i + 1].toNat ≠ 32) ∨ (97 ≤ s[i].toNat ∧ s[i].toNat ≤ 122)
/-- The shape of a symbol operator's text. -/
def Symby (s : ByteArray) : Prop := ∀ i (h : i < s.size), s[i].toNat = 60 ∨ s[i].toNat = 62 ∨ s[i].toNat = 61 ∨ s[i].toNat = 33
set_option maxHeartbeats 1000000 in
theorem shapes_word (a b : Int) (s t : ByteArray) (w : World) (h0 : 0 ≤ a) (h1 : a < 10) (h2 : 0 ≤ b) (h3 : b < 10) (hs : w.cell? ⟨0, a.toNat, none⟩ = some (.string s)) (ht : w.cell? ⟨0, b.toNat, none⟩ = some (.string t))
    (hz1 : 1 ≤ s.size) (hz2 : s.size ≤ 6) (heq : (!(s.toList == t.toList) == (a == b)) = false) (hfst : ∀ h : 0 < s.size, s[0].toNat ≠ 32) (hlst : ∀ h : s.size - 1 < s.size, s[s.size - 1].toNat ≠ 32)
    (h6 : 6 ≤ a) (hw : Wordy s) :
    Calls Tryd.prog 3 #[.int .u8 a, .int .u8 b] w fun e w' => e = .returned (.bool true) ∧ w' = w := by
  have Hw : Hid _ := hw
  have Hf : Hid (∀ h : 0 < s.size, s[0].toNat ≠ 32) := hfst
  have Hl : Hid (∀ h : s.size - 1 < s.size, s[s.size - 1].toNat ≠ 32) := hlst
  clear hw hfst hlst
  go_enter Tryd.func3, Tryd.ntmps3
  go_wp2_with fail
  refine (str_any a s _ h0 h1 hs).mono ?_
  rintro e w' ⟨rfl, rfl⟩
  go_wp2_with fail
  refine (str_any b t _ h2 h3 ht).mono ?_
  rintro e w' ⟨rfl, rfl⟩
  have hf1 : (((s[0]'(by omega)).toNat : Int) == 32) = false := by have := Hf.out (by omega); simp; omega
  have hl1 : (((s[s.size - 1]'(by omega)).toNat : Int) == 32) = false := by have := Hl.out (by omega); simp; omega
  go_wp2
  clear hf1 hl1 heq hs ht
  go_loop [8] (fun i => ∃ k : Nat, k ≤ s.size ∧ i = .int .i64 k) (fun i => s.size - (intOf i).toNat)
  case atStart => exact ⟨0, Nat.zero_le _, rfl⟩
  case round =>
    obtain ⟨k, hk, rfl⟩ := hrel
    by_cases hlt : k < s.size
    · rcases Hw.out k hlt with ⟨e1, hlt2, e2⟩ | ⟨e1, e2⟩
      · have c1 : ((s[k].toNat : Int) == 32) = true := by simp; omega
        have c2 : ((s[k + 1].toNat : Int) == 32) = false := by simp; omega
        clear e1 e2
        go_wp2
        go_round
        case rel => exact ⟨k + 1, by omega, by go_num⟩
        case measure => simp [intOf]; omega
      · have c0 : ((s[k].toNat : Int) == 32) = false := by simp; omega
        have c1 : (97 : Int) ≤ (s[k].toNat : Int) := by omega
        have c2 : (s[k].toNat : Int) ≤ 122 := by omega
        clear e1 e2
        go_wp2
        go_round
        case rel => exact ⟨k + 1, by omega, by go_num⟩
        case measure => simp [intOf]; omega
    · go_wp2
      go_ret
      exact ⟨rfl, rfl⟩
set_option maxHeartbeats 1000000 in
theorem shapes_sym (a b : Int) (s t : ByteArray) (w : World) (h0 : 0 ≤ a) (h1 : a < 10) (h2 : 0 ≤ b) (h3 : b < 10) (hs : w.cell? ⟨0, a.toNat, none⟩ = some (.string s)) (ht : w.cell? ⟨0, b.toNat, none⟩ = some (.string t))
    (hz1 : 1 ≤ s.size) (hz2 : s.size ≤ 6) (heq : (!(s.toList == t.toList) == (a == b)) = false) (hfst : ∀ h : 0 < s.size, s[0].toNat ≠ 32) (hlst : ∀ h : s.size - 1 < s.size, s[s.size - 1].toNat ≠ 32)
    (h6 : a < 6) (hw : Symby s) :
    Calls Tryd.prog 3 #[.int .u8 a, .int .u8 b] w fun e w' => e = .returned (.bool true) ∧ w' = w := by
  have Hw : Hid _ := hw
  have Hf : Hid (∀ h : 0 < s.size, s[0].toNat ≠ 32) := hfst
  have Hl : Hid (∀ h : s.size - 1 < s.size, s[s.size - 1].toNat ≠ 32) := hlst
  clear hw hfst hlst
  go_enter Tryd.func3, Tryd.ntmps3
  go_wp2_with fail
  refine (str_any a s _ h0 h1 hs).mono ?_
  rintro e w' ⟨rfl, rfl⟩
  go_wp2_with fail
  refine (str_any b t _ h2 h3 ht).mono ?_
  rintro e w' ⟨rfl, rfl⟩
  have hf1 : (((s[0]'(by omega)).toNat : Int) == 32) = false := by have := Hf.out (by omega); simp; omega
  have hl1 : (((s[s.size - 1]'(by omega)).toNat : Int) == 32) = false := by have := Hl.out (by omega); simp; omega
  go_wp2
  clear hf1 hl1 heq hs ht
  go_loop [8] (fun i => ∃ k : Nat, k ≤ s.size ∧ i = .int .i64 k) (fun i => s.size - (intOf i).toNat)
  case atStart => exact ⟨0, Nat.zero_le _, rfl⟩
  case round =>
    obtain ⟨k, hk, rfl⟩ := hrel
    by_cases hlt : k < s.size
    · have HC : Hid (s[k].toNat = 60 ∨ s[k].toNat = 62 ∨ s[k].toNat = 61 ∨ s[k].toNat = 33) := Hw.out k hlt
      go_wp2
      all_goals first
        | (exfalso; have := HC.out; simp_all; omega)
        | (go_round
           case rel => exact ⟨k + 1, by omega, by go_num⟩
           case measure => simp [intOf]; omega)
    · go_wp2
      go_ret
      exact ⟨rfl, rfl⟩
end Go.Proofs.Qxb6609069aDoor

/-
  The contracts of the law's small functions: zzIn, zzLast, zzDistinct, zzExpect, zzHolds, zzAttrMap.
-/
import Derived.Test.Qxb6609140aSizes
import Derived.Test.Qxb6609140aPlain
import Derived.Deep.QuietTactic
import Derived.BigQuiet
namespace Go.Proofs.Qxb6609140a
open Go.RowKit

theorem ret_bool {a b : Bool} (h : a = b) : Ending.returned (.bool a) = .returned (.bool b) := by rw [h]
theorem ret_str {a b : ByteArray} (h : a = b) : Ending.returned (.string a) = .returned (.string b) := by rw [h]
theorem ret_int {k : IntKind} {a b : Int} (h : a = b) : Ending.returned (.int k a) = .returned (.int k b) := by rw [h]

set_option maxHeartbeats 400000 in
theorem in_any (a : Option Addr) (len cap : Nat) (K : Nat → ByteArray) (s : ByteArray) (w : World) (hS : StrRow w a len K) (hl : len ≤ 4096) :
    Calls Try.prog 23 #[.slice a len cap, .string s] w fun e w' => e = .returned (.bool (inTo K s len)) ∧ w' = w := by
  have HS : Hid (StrRow w a len K) := hS
  clear hS
  go_enter Try.func23, Try.ntmps23
  go_wp2
  go_loop [5] (fun i => ∃ k : Nat, k ≤ len ∧ i = .int .i64 k ∧ Hid (inTo K s k = false)) (fun i => len - (intOf i).toNat)
  case atStart => exact ⟨0, Nat.zero_le _, rfl, rfl⟩
  case round =>
    obtain ⟨k, hk, rfl, HN⟩ := hrel
    by_cases hlt : k < len
    · obtain ⟨b, off, rfl, hc⟩ := HS.out.get (by omega)
      have hck := hc k hlt
      clear hc
      cases he : ((K k).toList == s.toList)
      · have HN' : Hid (inTo K s (k + 1) = false) := by show inTo K s (k + 1) = false; unfold inTo; rw [he, HN.out]; rfl
        go_wp2
        go_round
        case rel => exact ⟨k + 1, by omega, by go_num, HN'⟩
        case measure => simp [intOf]; omega
      · have HY : Hid (inTo K s len = true) := in_of K s k he len hlt
        go_wp2
        go_ret
        exact ⟨ret_bool HY.out.symm, rfl⟩
    · have HY : Hid (inTo K s len = false) := by have e : k = len := by omega
                                                 rw [← e]; exact HN
      go_wp2
      go_ret
      exact ⟨ret_bool HY.out.symm, rfl⟩

set_option maxHeartbeats 400000 in
theorem last_any (a1 a2 : Option Addr) (len cap1 cap2 : Nat) (K V : Nat → ByteArray) (s : ByteArray) (w : World) (hK : StrRow w a1 len K) (hV : StrRow w a2 len V) (hl : len ≤ 4096) :
    Calls Try.prog 28 #[.slice a1 len cap1, .slice a2 len cap2, .string s] w fun e w' => e = .returned (.string ((lastTo K V s len).getD noS)) ∧ w' = w := by
  have HK : Hid (StrRow w a1 len K) := hK
  have HV : Hid (StrRow w a2 len V) := hV
  clear hK hV
  go_enter Try.func28, Try.ntmps28
  go_wp2
  go_loop [7] (fun i => ∃ (k : Nat) (j : Int), k ≤ len ∧ i = .int .i64 j ∧ Hid (j = (k : Int) - 1) ∧ -1 ≤ j ∧ j < len ∧ Hid (lastTo K V s len = lastTo K V s k)) (fun i => (intOf i + 1).toNat)
  case atStart => exact ⟨len, _, Nat.le_refl _, rfl, rfl, by omega, by omega, rfl⟩
  case round =>
    obtain ⟨k, j, hk, rfl, HJ, hj1, hj2, HN⟩ := hrel
    by_cases hlt : 0 ≤ j
    · obtain ⟨m, rfl⟩ : ∃ m : Nat, j = m := ⟨j.toNat, by omega⟩
      have HM : Hid (k = m + 1) := by have := HJ.out; show k = m + 1; omega
      obtain ⟨b, off, rfl, hc⟩ := HK.out.get (by omega)
      obtain ⟨b2, off2, rfl, hc2⟩ := HV.out.get (by omega)
      have hck := hc m (by omega)
      have hck2 := hc2 m (by omega)
      clear hc hc2
      cases he : ((K m).toList == s.toList)
      · have HN' : Hid (lastTo K V s len = lastTo K V s m) := by
          show _ = _
          rw [HN.out, HM.out, lastTo, he]; rfl
        go_wp2
        go_round
        case rel => exact ⟨m, _, by have := HM.out; omega, rfl, rfl, by omega, by omega, HN'⟩
        case measure => simp [intOf]
      · have HY : Hid ((lastTo K V s len).getD noS = V m) := by
          show _ = _
          rw [HN.out, HM.out, lastTo, he]; rfl
        go_wp2
        go_ret
        exact ⟨ret_str HY.out.symm, rfl⟩
    · have HY : Hid ((lastTo K V s len).getD noS = ⟨#[]⟩) := by
        have : k = 0 := by have := HJ.out; omega
        subst this
        show _ = _
        rw [HN.out]; rfl
      go_wp2
      go_ret
      exact ⟨ret_str HY.out.symm, rfl⟩

set_option maxHeartbeats 400000 in
theorem holds_some (b n sz : Nat) (f : ByteArray → Option ByteArray) (k v : ByteArray) (w : World) (hm : MapIs w b n f sz) (hk : k.size ≤ maxLen) (hf : f k = some v) :
    Calls Try.prog 24 #[.map (some b), .string k, .string v] w fun e w' => e = .returned (.bool true) ∧ w' = w := by
  have hrun := hm.look hk
  rw [hf] at hrun
  simp at hrun
  clear hm hf
  go_enter Try.func24, Try.ntmps24
  go_wp2
  go_ret
  exact ⟨ret_bool (by simp), rfl⟩
/-- What zzExpect answers. -/
def expect (K V : Nat → ByteArray) (len : Nat) (s1 : Bool) (n1 v1 : ByteArray) (s2 : Bool) (n2 v2 k : ByteArray) : ByteArray :=
  if (s2 && (k.toList == n2.toList)) then v2 else if (s1 && (k.toList == n1.toList)) then v1 else (lastTo K V k len).getD noS
set_option maxHeartbeats 400000 in
theorem expect_any (a1 a2 : Option Addr) (len cap1 cap2 : Nat) (K V : Nat → ByteArray) (s1 : Bool) (n1 v1 : ByteArray) (s2 : Bool) (n2 v2 k : ByteArray) (w : World) (hK : StrRow w a1 len K) (hV : StrRow w a2 len V) (hl : len ≤ 4096) :
    Calls Try.prog 25 #[.slice a1 len cap1, .slice a2 len cap2, .bool s1, .string n1, .string v1, .bool s2, .string n2, .string v2, .string k] w fun e w' => e = .returned (.string (expect K V len s1 n1 v1 s2 n2 v2 k)) ∧ w' = w := by
  have HK : Hid (StrRow w a1 len K) := hK
  have HV : Hid (StrRow w a2 len V) := hV
  clear hK hV
  have HE : Hid (∀ x, x = (if (s2 && (k.toList == n2.toList)) then v2 else if (s1 && (k.toList == n1.toList)) then v1 else (lastTo K V k len).getD noS) → x = expect K V len s1 n1 v1 s2 n2 v2 k) := fun x h => h
  cases c2 : (k.toList == n2.toList) <;> cases c1 : (k.toList == n1.toList) <;> cases s1 <;> cases s2
  all_goals
    go_enter Try.func25, Try.ntmps25
    go_wp2_with (go_at_call 28; refine (last_any _ _ _ _ _ K V k _ HK.out HV.out hl).mono ?_; rintro e w2 ⟨rfl, rfl⟩)
    go_ret
    exact ⟨ret_str (HE.out _ (by simp [c1, c2])), rfl⟩
set_option maxHeartbeats 1000000 in
theorem distinct_any (a : Option Addr) (len cap : Nat) (K : Nat → ByteArray) (w : World) (hS : StrRow w a len K) (hl : len ≤ 4096) :
    Calls Try.prog 22 #[.slice a len cap] w fun e w' => e = .returned (.int .i64 (distTo K len)) ∧ ∃ n, w' = w.drewN n := by
  have HS : Hid (StrRow w a len K) := hS
  clear hS
  go_enter Try.func22, Try.ntmps22
  go_wp2
  go_loopw [3, 4] (fun t i wr => ∃ (k : Nat) (q m : Nat), k ≤ len ∧ i = .int .i64 k ∧ t = .int .i64 q ∧ q ≤ k ∧ Hid (q = distTo K k) ∧ wr = w.drewN m) (fun _ i _ => len - (intOf i).toNat)
  case atStart => exact ⟨0, 0, 0, Nat.zero_le _, rfl, rfl, Nat.zero_le _, rfl, rfl⟩
  case round =>
    obtain ⟨k, q, m, hk, rfl, rfl, hq, HQ, rfl⟩ := hrel
    by_cases hlt : k < len
    · obtain ⟨b, off, rfl, hc⟩ := HS.out.get (by omega)
      have hck := hc k hlt
      have HC : Hid (∀ i, i < len → w.cell? ⟨b, off + i, none⟩ = some (.string (K i))) := hc
      clear hc
      go_wp2
      go_loopw [5, 6] (fun t i wr => ∃ (j : Nat) (m' : Nat), j ≤ k ∧ i = .int .i64 j ∧ t = .bool false ∧ Hid (inTo K (K k) j = false) ∧ wr = w.drewN m') (fun _ i _ => k - (intOf i).toNat)
      case atStart => exact ⟨0, m, Nat.zero_le _, rfl, rfl, rfl, rfl⟩
      case round =>
        obtain ⟨j, m', hj, rfl, rfl, HN, rfl⟩ := hrel
        by_cases hjk : j < k
        · have hcj := HC.out j (by omega)
          cases he : ((K j).toList == (K k).toList)
          · have HN' : Hid (inTo K (K k) (j + 1) = false) := by show inTo K (K k) (j + 1) = false; unfold inTo; rw [he, HN.out]; rfl
            go_wp2
            go_quiet (fail)
            go_wp2
            go_roundw
            case rel => exact ⟨j + 1, _, by omega, by go_num, rfl, HN', rfl⟩
            case measure => simp [intOf]; omega
          · have HY : Hid (distTo K (k + 1) = distTo K k) := by
              show _ = _
              rw [distTo, if_pos (in_of K (K k) j he k hjk)]
            go_wp2
            go_quiet (fail)
            go_wp2
            go_roundw
            case rel => exact ⟨k + 1, q, _, by omega, by go_num, rfl, by omega, HQ.out.trans HY.out.symm, rfl⟩
            case measure => simp [intOf]; omega
        · have HY : Hid (distTo K (k + 1) = distTo K k + 1) := by
            have : j = k := by omega
            subst this
            show _ = _
            rw [distTo, HN.out]; rfl
          go_wp2
          go_roundw
          case rel => exact ⟨k + 1, q + 1, _, by omega, by go_num, by go_num, by omega, by show _ = _; rw [HY.out, ← HQ.out], rfl⟩
          case measure => simp [intOf]; omega
    · have HY : Hid ((q : Int) = distTo K len) := by
        have : k = len := by omega
        subst this
        show _ = _
        rw [HQ.out]
      go_wp2
      go_ret
      exact ⟨ret_int HY.out, _, rfl⟩
end Go.Proofs.Qxb6609140a

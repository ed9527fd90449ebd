/-
  zzAttrsAre.
-/
import Derived.Test.Qxb6609140aWith
namespace Go.Proofs.Qxb6609140a
open Go.RowKit

/-- How many keys the overlaid map has. -/
def wantOf (K : Nat → ByteArray) (len : Nat) (n1 : ByteArray) (s2 : Bool) (n2 : ByteArray) : Nat :=
  distTo K len + (if inTo K n1 len then 0 else 1) + (if s2 && !inTo K n2 len && !(n2.toList == n1.toList) then 1 else 0)

theorem StrRow.drewN {w : World} {a : Option Addr} {len : Nat} {S : Nat → ByteArray} (h : StrRow w a len S) (m : Nat) : StrRow (w.drewN m) a len S := h
theorem MapIs.drewN {w : World} {b n sz : Nat} {f : ByteArray → Option ByteArray} (h : MapIs w b n f sz) (m : Nat) : MapIs (w.drewN m) b n f sz := h.of_block rfl

set_option maxHeartbeats 2000000 in
theorem attrs_any (b n sz : Nat) (f : ByteArray → Option ByteArray) (a1 a2 : Option Addr) (len cap1 cap2 : Nat) (K V : Nat → ByteArray) (n1 v1 : ByteArray) (s2 : Bool) (n2 v2 : ByteArray) (w : World)
    (hK : StrRow w a1 len K) (hV : StrRow w a2 len V) (hl : len ≤ 4096) (hm : MapIs w b n f sz) (hk : ∀ i, i < len → (K i).size ≤ maxLen) (h1 : n1.size ≤ maxLen) (h2 : n2.size ≤ maxLen)
    (hsz : sz = wantOf K len n1 s2 n2) (hf : ∀ i, i < len → f (K i) = some (expect K V len true n1 v1 s2 n2 v2 (K i))) (hf1 : f n1 = some (expect K V len true n1 v1 s2 n2 v2 n1)) (hf2 : s2 = true → f n2 = some (expect K V len true n1 v1 s2 n2 v2 n2)) :
    Calls Try.prog 18 #[.map (some b), .slice a1 len cap1, .slice a2 len cap2, .bool true, .string n1, .string v1, .bool s2, .string n2, .string v2] w fun e w' => e = .returned (.bool true) ∧ ∃ n, w' = w.drewN n := by
  have HK : Hid (StrRow w a1 len K) := hK
  have HV : Hid (StrRow w a2 len V) := hV
  have HM : Hid (MapIs w b n f sz) := hm
  have Hk : Hid (∀ i, i < len → (K i).size ≤ maxLen) := hk
  have HF : Hid (∀ i, i < len → f (K i) = some (expect K V len true n1 v1 s2 n2 v2 (K i))) := hf
  have HF1 : Hid (f n1 = some (expect K V len true n1 v1 s2 n2 v2 n1)) := hf1
  have HF2 : Hid (s2 = true → f n2 = some (expect K V len true n1 v1 s2 n2 v2 n2)) := hf2
  clear hK hV hk hf hf1 hf2 hm
  have hd := dist_le K len
  have HSZ : Hid (sz = wantOf K len n1 s2 n2) := hsz
  clear hsz
  have hlen : ∀ (m : Nat) ty, (Builtin.len_ #[40] ty #[.map (some b)]).run Try.prog (w.drewN m) = .ok (.int .i64 sz) (w.drewN m) := fun m ty => (HM.out.drewN m).len ty
  cases s2
  · cases i1 : inTo K n1 len
    all_goals
      have hsz := HSZ.out
      simp [wantOf, i1] at hsz
      subst hsz
      go_enter Try.func18, Try.ntmps18
      go_wp2_with fail
      refine (distinct_any a1 len cap1 K _ HK.out hl).mono ?_; rintro e w1 ⟨rfl, m1, rfl⟩
      go_wp2_with fail
      refine (in_any a1 len cap1 K n1 _ (HK.out.drewN _) hl).mono ?_; rintro e w2 ⟨rfl, hw⟩; subst hw
      go_wp2
      go_loopw [20] (fun i wr => ∃ k : Nat, k ≤ len ∧ i = .int .i64 k ∧ Hid (∃ m, wr = w.drewN m)) (fun i _ => len - (intOf i).toNat)
      case atStart => exact ⟨0, Nat.zero_le _, rfl, _, rfl⟩
      case round =>
        obtain ⟨k, hk, rfl, HW⟩ := hrel
        have HKr : Hid (StrRow wr a1 len K) := by obtain ⟨m, rfl⟩ := HW.out; exact HK.out.drewN m
        have HVr : Hid (StrRow wr a2 len V) := by obtain ⟨m, rfl⟩ := HW.out; exact HV.out.drewN m
        obtain ⟨z, HMr⟩ : ∃ z, Hid (MapIs wr b n f z) := by obtain ⟨m, rfl⟩ := HW.out; exact ⟨_, HM.out.drewN m⟩
        clear HK HV HM hlen
        by_cases hlt : k < len
        · obtain ⟨g, off, rfl, hc⟩ := HKr.out.get (by omega)
          have hck := hc k hlt
          clear hc
          go_wp2
          go_quiet ((first | (go_at_call 25; exact Calls.quiet_of_same (expect_any _ a2 len cap1 cap2 K V true n1 v1 false n2 v2 (K k) _ (HKr.out.drewN _) (HVr.out.drewN _) hl)) | (go_at_call 24; exact Calls.quiet_of_same (holds_some b n _ f (K k) _ _ (HMr.out.drewN _) (Hk.out k hlt) (HF.out k hlt)))))
          go_wp2
          go_roundw
          case rel => exact ⟨k + 1, by omega, by go_num, by obtain ⟨m, rfl⟩ := HW.out; exact ⟨_, World.drewN_drewN _ _ _⟩⟩
          case measure => simp [intOf]; omega
        · go_wp2_with fail
          refine (expect_any a1 a2 len cap1 cap2 K V true n1 v1 false n2 v2 n1 _ HKr.out HVr.out hl).mono ?_; rintro e w3 ⟨rfl, hw⟩; subst hw
          go_wp2_with fail
          refine (holds_some b n _ f n1 _ _ HMr.out h1 HF1.out).mono ?_; rintro e w3 ⟨rfl, hw⟩; subst hw
          go_wp2
          go_ret
          exact ⟨rfl, HW.out⟩
  · cases i1 : inTo K n1 len <;> cases i2 : inTo K n2 len <;> cases c3 : (n2.toList == n1.toList)
    all_goals
      have hsz := HSZ.out
      simp [wantOf, i1, i2, c3] at hsz
      subst hsz
      go_enter Try.func18, Try.ntmps18
      go_wp2_with fail
      refine (distinct_any a1 len cap1 K _ HK.out hl).mono ?_; rintro e w1 ⟨rfl, m1, rfl⟩
      go_wp2_with fail
      refine (in_any a1 len cap1 K n1 _ (HK.out.drewN _) hl).mono ?_; rintro e w2 ⟨rfl, hw⟩; subst hw
      go_wp2_with fail
      refine (in_any a1 len cap1 K n2 _ (HK.out.drewN _) hl).mono ?_; rintro e w2 ⟨rfl, hw⟩; subst hw
      go_wp2
      go_loopw [20] (fun i wr => ∃ k : Nat, k ≤ len ∧ i = .int .i64 k ∧ Hid (∃ m, wr = w.drewN m)) (fun i _ => len - (intOf i).toNat)
      case atStart => exact ⟨0, Nat.zero_le _, rfl, _, rfl⟩
      case round =>
        obtain ⟨k, hk, rfl, HW⟩ := hrel
        have HKr : Hid (StrRow wr a1 len K) := by obtain ⟨m, rfl⟩ := HW.out; exact HK.out.drewN m
        have HVr : Hid (StrRow wr a2 len V) := by obtain ⟨m, rfl⟩ := HW.out; exact HV.out.drewN m
        obtain ⟨z, HMr⟩ : ∃ z, Hid (MapIs wr b n f z) := by obtain ⟨m, rfl⟩ := HW.out; exact ⟨_, HM.out.drewN m⟩
        clear HK HV HM hlen
        by_cases hlt : k < len
        · obtain ⟨g, off, rfl, hc⟩ := HKr.out.get (by omega)
          have hck := hc k hlt
          clear hc
          go_wp2
          go_quiet ((first | (go_at_call 25; exact Calls.quiet_of_same (expect_any _ a2 len cap1 cap2 K V true n1 v1 true n2 v2 (K k) _ (HKr.out.drewN _) (HVr.out.drewN _) hl)) | (go_at_call 24; exact Calls.quiet_of_same (holds_some b n _ f (K k) _ _ (HMr.out.drewN _) (Hk.out k hlt) (HF.out k hlt)))))
          go_wp2
          go_roundw
          case rel => exact ⟨k + 1, by omega, by go_num, by obtain ⟨m, rfl⟩ := HW.out; exact ⟨_, World.drewN_drewN _ _ _⟩⟩
          case measure => simp [intOf]; omega
        · go_wp2_with fail
          refine (expect_any a1 a2 len cap1 cap2 K V true n1 v1 true n2 v2 n1 _ HKr.out HVr.out hl).mono ?_; rintro e w3 ⟨rfl, hw⟩; subst hw
          go_wp2_with fail
          refine (holds_some b n _ f n1 _ _ HMr.out h1 HF1.out).mono ?_; rintro e w3 ⟨rfl, hw⟩; subst hw
          go_wp2_with fail
          refine (expect_any a1 a2 len cap1 cap2 K V true n1 v1 true n2 v2 n2 _ HKr.out HVr.out hl).mono ?_; rintro e w3 ⟨rfl, hw⟩; subst hw
          go_wp2_with fail
          refine (holds_some b n _ f n2 _ _ HMr.out h2 (HF2.out (by simp))).mono ?_; rintro e w3 ⟨rfl, hw⟩; subst hw
          go_wp2
          go_ret
          exact ⟨rfl, HW.out⟩
end Go.Proofs.Qxb6609140a

/-
  zzSameOn.
-/
import Derived.Test.Qxb6609140aAttrs
namespace Go.Proofs.Qxb6609140a
open Go.RowKit

set_option maxRecDepth 100000 in
set_option maxHeartbeats 2000000 in
theorem same_any (b1 b2 n sz : Nat) (f : ByteArray → Option ByteArray) (a1 : Option Addr) (len cap1 : Nat) (K : Nat → ByteArray) (x y : ByteArray) (w : World)
    (hK : StrRow w a1 len K) (hl : len ≤ 4096) (hm1 : MapIs w b1 n f sz) (hm2 : MapIs w b2 n f sz) (hk : ∀ i, i < len → (K i).size ≤ maxLen) (hx : x.size ≤ maxLen) (hy : y.size ≤ maxLen) :
    Calls Try.prog 19 #[.map (some b1), .map (some b2), .slice a1 len cap1, .string x, .string y] w fun e w' => e = .returned (.bool true) ∧ w' = w := by
  have HK : Hid (StrRow w a1 len K) := hK
  have Hk : Hid (∀ i, i < len → (K i).size ≤ maxLen) := hk
  have HM1 : Hid (MapIs w b1 n f sz) := hm1
  have HM2 : Hid (MapIs w b2 n f sz) := hm2
  have lx1 := hm1.look hx; have lx2 := hm2.look hx; have ly1 := hm1.look hy; have ly2 := hm2.look hy
  have hl1 := hm1.len; have hl2 := hm2.len
  clear hK hk hm1 hm2
  go_enter Try.func19, Try.ntmps19
  go_wp2
  go_loop [11] (fun i => ∃ k : Nat, k ≤ len + 2 ∧ i = .int .i64 k) (fun i => len + 2 - (intOf i).toNat)
  case atStart => exact ⟨0, Nat.zero_le _, rfl⟩
  case round =>
    obtain ⟨k, hk, rfl⟩ := hrel
    by_cases hlt : k < len
    · obtain ⟨g, off, rfl, hc⟩ := HK.out.get (by omega)
      have hck := hc k hlt
      have lk1 := HM1.out.look (Hk.out k hlt)
      have lk2 := HM2.out.look (Hk.out k hlt)
      clear hc
      go_wp2
      go_round
      case rel => exact ⟨k + 1, by omega, by go_num⟩
      case measure => simp [intOf]; omega
    · by_cases h1 : k = len
      · subst h1
        go_wp2
        go_round
        case rel => exact ⟨k + 1, by omega, by go_num⟩
        case measure => simp [intOf]
      · by_cases h2 : k = len + 1
        · have e0 : k ≤ len + 1 := by omega
          have e1 : ¬ ((k : Int) < len) := by omega
          have e2 : ((k : Int) == (len : Int) + 1) = true := by simp; omega
          clear h1 hlt h2
          go_wp2
          go_round
          case rel => exact ⟨k + 1, by omega, by go_num⟩
          case measure => simp [intOf]; omega
        · go_wp2
          go_ret
          exact ⟨rfl, rfl⟩
end Go.Proofs.Qxb6609140a

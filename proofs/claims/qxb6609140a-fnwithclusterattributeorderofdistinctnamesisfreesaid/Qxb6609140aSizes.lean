/-
  The bounds on the input: zzAddString, zzAddStrings, zzBytes_.. .
-/
import Derived.Test.Qxb6609140aMaps
namespace Go.Proofs.Qxb6609140a
open Go.RowKit

/-- A slice of strings that came in: nothing is known where it is empty; else its cells hold S 0, S 1, .. -/
def StrRow (w : World) (a : Option Addr) (len : Nat) (S : Nat → ByteArray) : Prop :=
  len = 0 ∨ ∃ b off, a = some ⟨b, off, none⟩ ∧ ∀ i, i < len → w.cell? ⟨b, off + i, none⟩ = some (.string (S i))

theorem StrRow.get {w : World} {a : Option Addr} {len : Nat} {S : Nat → ByteArray} (h : StrRow w a len S) (hl : 0 < len) : ∃ b off, a = some ⟨b, off, none⟩ ∧ ∀ i, i < len → w.cell? ⟨b, off + i, none⟩ = some (.string (S i)) := by
  rcases h with h | h
  · omega
  · exact h

set_option maxHeartbeats 400000 in
theorem addString_any (t : Int) (x : ByteArray) (w : World) (h0 : 0 ≤ t) (h1 : t ≤ 4194304) (hx : x.size ≤ 1048576) :
    Calls Try.prog 7 #[.int .i64 t, .string x] w fun e w' => (∃ u : Int, e = .returned (.int .i64 u) ∧ 0 ≤ u ∧ u ≤ 4194304) ∧ w' = w := by
  by_cases h : t ≤ 1048576
  · go_enter Try.func7, Try.ntmps7
    go_wp2
    go_ret
    exact ⟨⟨_, rfl, by omega, by omega⟩, rfl⟩
  · go_enter Try.func7, Try.ntmps7
    go_wp2
    go_ret
    exact ⟨⟨_, rfl, by omega, by omega⟩, rfl⟩

set_option maxHeartbeats 400000 in
theorem addStrings_any (t : Int) (a : Option Addr) (len cap : Nat) (S : Nat → ByteArray) (w : World) (h0 : 0 ≤ t) (h1 : t ≤ 4194304) (hS : StrRow w a len S) (hl : len ≤ 1048576) (hz : ∀ i, i < len → (S i).size ≤ 1048576) :
    Calls Try.prog 15 #[.int .i64 t, .slice a len cap] w fun e w' => (∃ u : Int, e = .returned (.int .i64 u) ∧ 0 ≤ u ∧ u ≤ 4194304) ∧ w' = w := by
  have HS : Hid (StrRow w a len S) := hS
  have HZ : Hid (∀ i, i < len → (S i).size ≤ 1048576) := hz
  clear hS hz
  go_enter Try.func15, Try.ntmps15
  go_wp2
  go_loop [0, 5] (fun u i => ∃ (k : Nat) (v : Int), k ≤ len ∧ i = .int .i64 k ∧ u = .int .i64 v ∧ 0 ≤ v ∧ v ≤ 4194304) (fun _ i => len - (intOf i).toNat)
  case atStart => exact ⟨0, t, Nat.zero_le _, rfl, rfl, h0, h1⟩
  case round =>
    obtain ⟨k, v, hk, rfl, rfl, hv0, hv1⟩ := hrel
    by_cases hlt : k < len
    · obtain ⟨b, off, rfl, hc⟩ := HS.out.get (by omega)
      have hck := hc k hlt
      have hzk := HZ.out k hlt
      clear hc
      by_cases hb : v ≤ 1048576
      · go_wp2
        go_round
        case rel => exact ⟨k + 1, _, by omega, by go_num, rfl, by omega, by omega⟩
        case measure => simp [intOf]; omega
      · go_wp2
        go_ret
        exact ⟨⟨_, rfl, by omega, by omega⟩, rfl⟩
    · go_wp2
      go_ret
      exact ⟨⟨_, rfl, by omega, by omega⟩, rfl⟩
/-- What the bound says where it says yes. -/
structure Small (len1 len2 : Nat) (K V : Nat → ByteArray) (x y z u : ByteArray) : Prop where
  l1 : len1 ≤ 1048576
  l2 : len2 ≤ 1048576
  k : ∀ i, i < len1 → (K i).size ≤ 1048576
  v : ∀ i, i < len2 → (V i).size ≤ 1048576
  x : x.size ≤ 1048576
  y : y.size ≤ 1048576
  z : z.size ≤ 1048576
  u : u.size ≤ 1048576

/-- How the bound's call ends. -/
def SmallPost (len1 len2 : Nat) (K V : Nat → ByteArray) (x y z u : ByteArray) (e : Ending) : Prop := ∃ r : Bool, e = .returned (.bool r) ∧ (r = true → Small len1 len2 K V x y z u)
theorem SmallPost.no {len1 len2 : Nat} {K V : Nat → ByteArray} {x y z u : ByteArray} : SmallPost len1 len2 K V x y z u (.returned (.bool false)) := ⟨false, rfl, fun h => by cases h⟩
theorem SmallPost.yes {len1 len2 : Nat} {K V : Nat → ByteArray} {x y z u : ByteArray} (h : Small len1 len2 K V x y z u) : SmallPost len1 len2 K V x y z u (.returned (.bool true)) := ⟨true, rfl, fun _ => h⟩

set_option maxHeartbeats 2000000 in
theorem bytes_any (a1 a2 : Option Addr) (len1 cap1 len2 cap2 : Nat) (K V : Nat → ByteArray) (x y z u : ByteArray) (w : World) (h1 : StrRow w a1 len1 K) (h2 : StrRow w a2 len2 V) (hl1 : len1 ≤ maxLen) (hl2 : len2 ≤ maxLen)
    (hK : ∀ i, i < len1 → (K i).size ≤ maxLen) (hV : ∀ i, i < len2 → (V i).size ≤ maxLen) (hx : x.size ≤ maxLen) (hy : y.size ≤ maxLen) (hz : z.size ≤ maxLen) (hu : u.size ≤ maxLen) :
    Calls Try.prog 14 #[.slice a1 len1 cap1, .slice a2 len2 cap2, .string x, .string y, .string z, .string u] w fun e w' => SmallPost len1 len2 K V x y z u e ∧ w' = w := by
  unfold maxLen at hl1 hl2 hK hV hx hy hz hu
  have H1 : Hid (StrRow w a1 len1 K) := h1
  have H2 : Hid (StrRow w a2 len2 V) := h2
  have HK : Hid (∀ i, i < len1 → (K i).size ≤ 9223372036854775807) := hK
  have HV : Hid (∀ i, i < len2 → (V i).size ≤ 9223372036854775807) := hV
  clear h1 h2 hK hV
  by_cases b1 : len1 ≤ 1048576
  case neg =>
    go_enter Try.func14, Try.ntmps14
    go_wp2
    go_ret
    exact ⟨.no, rfl⟩
  go_enter Try.func14, Try.ntmps14
  go_wp2
  go_loop [13, 14] (fun t i => ∃ (k : Nat) (v : Int), k ≤ len1 ∧ i = .int .i64 k ∧ t = .int .i64 v ∧ 0 ≤ v ∧ v ≤ 1048576 ∧ Hid (∀ i, i < k → (K i).size ≤ 1048576)) (fun _ i => len1 - (intOf i).toNat)
  case atStart => exact ⟨0, _, Nat.zero_le _, rfl, rfl, by omega, by omega, fun i hi => by omega⟩
  case round =>
    obtain ⟨k, v, hk, rfl, rfl, hv0, hv1, HB⟩ := hrel
    by_cases hlt : k < len1
    · obtain ⟨b, off, rfl, hc⟩ := H1.out.get (by omega)
      have hck := hc k hlt
      have hzk := HK.out k hlt
      clear hc
      by_cases c1 : (K k).size ≤ 1048576
      · have HB' : Hid (∀ i, i < k + 1 → (K i).size ≤ 1048576) := fun i hi => by
          by_cases e : i = k
          · subst e; exact c1
          · exact HB.out i (by omega)
        by_cases c2 : v + (K k).size ≤ 1048576
        · go_wp2
          go_round
          case rel => exact ⟨k + 1, _, by omega, by go_num, rfl, by omega, by omega, HB'⟩
          case measure => simp [intOf]; omega
        · go_wp2
          go_ret
          exact ⟨.no, rfl⟩
      · go_wp2
        go_ret
        exact ⟨.no, rfl⟩
    · have HB1 : Hid (∀ i, i < len1 → (K i).size ≤ 1048576) := fun i hi => HB.out i (by omega)
      clear HB HK H1
      by_cases b2 : len2 ≤ 1048576 ∧ v + len2 ≤ 1048576
      case neg =>
        go_wp2
        all_goals first | (exfalso; omega) | (go_ret; exact ⟨.no, rfl⟩)
      obtain ⟨b2, b3⟩ := b2
      go_wp2
      go_loop [13, 15] (fun t i => ∃ (k : Nat) (v : Int), k ≤ len2 ∧ i = .int .i64 k ∧ t = .int .i64 v ∧ 0 ≤ v ∧ v ≤ 1048576 ∧ Hid (∀ i, i < k → (V i).size ≤ 1048576)) (fun _ i => len2 - (intOf i).toNat)
      case atStart => exact ⟨0, _, Nat.zero_le _, rfl, rfl, by omega, by omega, fun i hi => by omega⟩
      case round =>
        obtain ⟨j, v, hj, rfl, rfl, hv0, hv1, HB⟩ := hrel
        by_cases hlt : j < len2
        · obtain ⟨b, off, rfl, hc⟩ := H2.out.get (by omega)
          have hck := hc j hlt
          have hzk := HV.out j hlt
          clear hc
          by_cases c1 : (V j).size ≤ 1048576
          · have HB' : Hid (∀ i, i < j + 1 → (V i).size ≤ 1048576) := fun i hi => by
              by_cases e : i = j
              · subst e; exact c1
              · exact HB.out i (by omega)
            by_cases c2 : v + (V j).size ≤ 1048576
            · go_wp2
              go_round
              case rel => exact ⟨j + 1, _, by omega, by go_num, rfl, by omega, by omega, HB'⟩
              case measure => simp [intOf]; omega
            · go_wp2
              go_ret
              exact ⟨.no, rfl⟩
          · go_wp2
            go_ret
            exact ⟨.no, rfl⟩
        · have HB2 : Hid (∀ i, i < len2 → (V i).size ≤ 1048576) := fun i hi => HB.out i (by omega)
          clear HB HV H2
          go_wp2
          all_goals first
            | (go_ret; exact ⟨.no, rfl⟩)
            | (go_ret; exact ⟨.yes ⟨b1, b2, HB1.out, HB2.out, by omega, by omega, by omega, by omega⟩, rfl⟩)
end Go.Proofs.Qxb6609140a

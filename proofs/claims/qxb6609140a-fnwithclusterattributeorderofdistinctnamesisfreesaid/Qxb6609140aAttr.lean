/-
  zzAttrMap: the map of the pairs.
-/
import Derived.Test.Qxb6609140aMakes
namespace Go.Proofs.Qxb6609140a
open Go.RowKit

theorem eq_iff (a b : ByteArray) : (a.toList == b.toList) = true ↔ b = a := by
  rw [ByteArray.toList_eq, ByteArray.toList_eq]
  constructor
  · intro h
    have h' : a.data.toList = b.data.toList := by simpa using h
    obtain ⟨⟨x⟩⟩ := a
    obtain ⟨⟨y⟩⟩ := b
    simp at h'
    rw [h']
  · rintro rfl; simp

theorem put_last (K V : Nat → ByteArray) (k : Nat) : put (fun s => lastTo K V s k) (K k) (V k) = fun s => lastTo K V s (k + 1) := by
  funext s
  show (if s = K k then some (V k) else lastTo K V s k) = (if ((K k).toList == s.toList) then some (V k) else lastTo K V s k)
  by_cases h : s = K k
  · rw [if_pos h, if_pos ((eq_iff _ _).2 h)]
  · rw [if_neg h, if_neg (fun e => h ((eq_iff _ _).1 e))]
theorem size_last (K V : Nat → ByteArray) (k : Nat) : szPut (fun s => lastTo K V s k) (K k) (distTo K k) = distTo K (k + 1) := by
  show (if (lastTo K V (K k) k).isSome then distTo K k else distTo K k + 1) = (if inTo K (K k) k then distTo K k else distTo K k + 1)
  rw [last_in]

theorem StrRow.below {w w' : World} {a : Option Addr} {len : Nat} {S : Nat → ByteArray} (h : StrRow w a len S) (hb : Below w.heap.size w w') : StrRow w' a len S := by
  rcases h with h | ⟨b, off, rfl, hc⟩
  · exact .inl h
  · refine .inr ⟨b, off, rfl, fun i hi => ?_⟩
    have h1 := hc i hi
    have hlt : b < w.heap.size := by
      rcases Nat.lt_or_ge b w.heap.size with h | h
      · exact h
      · simp [World.cell?, Array.getElem?_eq_none h] at h1
    exact (hb.cell hlt).trans h1

theorem run_makeMap_hint (n : Nat) (w : World) : (Instr.makeMap 40 (some (.int .i64 n))).run Try.prog w = .ok (.map (some w.heap.size)) (w.alloc (.map #[] 0)) := by
  simp [Instr.makeMap, run_underlying Try.underlying40, asInt, asIntOf, Result.andThen]

set_option maxHeartbeats 1000000 in
theorem attrMap_any (a1 a2 : Option Addr) (len cap1 cap2 : Nat) (K V : Nat → ByteArray) (w : World) (hK : StrRow w a1 len K) (hV : StrRow w a2 len V) (hl : len ≤ 4096) (hk : ∀ i, i < len → (K i).size ≤ maxLen) (hv : ∀ i, i < len → (V i).size ≤ maxLen) (hn : a1 = none → len = 0) :
    Calls Try.prog 16 #[.slice a1 len cap1, .slice a2 len cap2] w fun e w' => (∃ v, e = .returned v ∧ MapVal w' v 4096 (fun s => lastTo K V s len) (distTo K len) ∧ (∀ b, v = .map (some b) → w.heap.size ≤ b)) ∧ Below w.heap.size w w' := by
  have HK : Hid (StrRow w a1 len K) := hK
  have HV : Hid (StrRow w a2 len V) := hV
  have Hk : Hid (∀ i, i < len → (K i).size ≤ maxLen) := hk
  have Hv : Hid (∀ i, i < len → (V i).size ≤ maxLen) := hv
  clear hK hV hk hv
  have hq := fun w a n c => Lib.run_eql_slice_nil (P := Try.prog) w 30 _ a n c 0 0 Try.underlying30
  cases a1 with
  | none =>
    obtain rfl : len = 0 := hn rfl
    clear hn
    go_enter Try.func16, Try.ntmps16
    go_wp2
    go_ret
    exact ⟨⟨_, rfl, .inl ⟨rfl, rfl, rfl⟩, fun b hb => by cases hb⟩, Below.refl _ _⟩
  | some x =>
    clear hn
    have hmk := run_makeMap_hint len
    go_enter Try.func16, Try.ntmps16
    go_wp2
    go_loopw [6] (fun i wr => ∃ k : Nat, k ≤ len ∧ i = .int .i64 k ∧ Hid (MapIs wr w.heap.size k (fun s => lastTo K V s k) (distTo K k)) ∧ Below w.heap.size w wr) (fun i _ => len - (intOf i).toNat)
    case atStart => exact ⟨0, Nat.zero_le _, rfl, MapIs.made w, (Below.refl _ _).alloc (Nat.le_refl _) _⟩
    case round =>
      obtain ⟨k, hk, rfl, HM, hb⟩ := hrel
      by_cases hlt : k < len
      · obtain ⟨b, off, hx, hc⟩ := (HK.out.below hb).get (by omega)
        obtain rfl : x = ⟨b, off, none⟩ := by simpa using hx
        obtain ⟨b2, off2, rfl, hc2⟩ := (HV.out.below hb).get (by omega)
        have hck := hc k hlt
        have hck2 := hc2 k hlt
        obtain ⟨w1, hrun, hm1, hg1⟩ := (HM.out.of_block (w' := wr.drew) rfl).store (by unfold maxLen; omega) (Hk.out k hlt) (Hv.out k hlt)
        rw [put_last, size_last] at hm1
        have HM1 : Hid (MapIs w1 w.heap.size (k + 1) (fun s => lastTo K V s (k + 1)) (distTo K (k + 1))) := hm1
        have hb1 : Below w.heap.size w w1 := hb.drew.grown hg1 (Nat.le_trans hb.size (Nat.le_refl _)) (fun j hj => by cases hj; exact Nat.le_refl _)
        have HB1 : Hid (Below w.heap.size w w1) := hb1
        clear hc hc2 hx hm1 hg1 hb1 hb HM
        go_wp2
        go_region
        all_goals go_wp2
        all_goals
          go_roundw
          case rel => exact ⟨k + 1, by omega, by go_num, HM1, HB1.out⟩
          case measure => simp [intOf]; omega
      · have hkl : k = len := by omega
        subst hkl
        have HB : Hid (Below w.heap.size w wr) := hb
        clear hb
        go_wp2
        go_ret
        refine ⟨⟨_, rfl, .inr ⟨_, rfl, ?_⟩, fun b hb => by cases hb; exact Nat.le_refl _⟩, HB.out⟩
        obtain ⟨D, hD, h⟩ := HM.out
        exact ⟨D, hD.mono hl, h⟩
end Go.Proofs.Qxb6609140a

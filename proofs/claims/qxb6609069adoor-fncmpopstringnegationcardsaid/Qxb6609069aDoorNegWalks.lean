/-
  FnCmpOpStringNegation, walked out of its parts.
-/
import Derived.Test.Qxb6609069aDoorNegParts
import Derived.WalkSmall
namespace Go.Proofs.Qxb6609069aDoor
open Go.RowKit
theorem negation_big (a : Int) (w : World) (h0 : 10 ≤ a) (_h1 : a ≤ 255) :
    Calls Tryd.prog 4 #[.int .u8 a] w fun e w' => e = .returned (.bool true) ∧ Below w.heap.size w w' := by
  go_enter Tryd.func4, Tryd.ntmps4
  go_wp2
  go_ret
  exact ⟨rfl, Below.refl _ _⟩
set_option maxHeartbeats 1000000 in
theorem negation_sym (i : Nat) (hi : i < 6) (s t : ByteArray) (w : World) (hs : w.cell? ⟨0, i, none⟩ = some (.string s)) (ht : w.cell? ⟨0, negOf i, none⟩ = some (.string t))
    (hn : negOf i < 10) (e1 : s.toList.isEmpty = false) (e2 : t.toList.isEmpty = false) (e3 : (s.toList == t.toList) = false) (z1 : s.size ≤ 6) (z2 : t.size ≤ 6)
    (cs : ∀ w, Calls Tryd.prog 7 #[.string s] w fun e w' => e = .returned (.string t) ∧ Below w.heap.size w w')
    (ct : ∀ w, Calls Tryd.prog 7 #[.string t] w fun e w' => e = .returned (.string s) ∧ Below w.heap.size w w') :
    Calls Tryd.prog 4 #[.int .u8 i] w fun e w' => e = .returned (.bool true) ∧ Below w.heap.size w w' := by
  have Hs : Hid (∀ w, Calls Tryd.prog 7 #[.string s] w fun e w' => e = .returned (.string t) ∧ Below w.heap.size w w') := cs
  have Ht : Hid (∀ w, Calls Tryd.prog 7 #[.string t] w fun e w' => e = .returned (.string s) ∧ Below w.heap.size w w') := ct
  clear cs ct
  go_enter Tryd.func4, Tryd.ntmps4
  go_wp2_with fail
  refine (neg_any i (by omega) _).mono ?_
  rintro e w' ⟨rfl, rfl⟩
  go_wp2_with fail
  refine (str_nat i (by omega) s _ hs).mono ?_
  rintro e w' ⟨rfl, rfl⟩
  go_wp2_with fail
  refine (str_nat _ hn t _ ht).mono ?_
  rintro e w' ⟨rfl, rfl⟩
  go_wp2_with fail
  refine (Hs.out _).mono ?_
  rintro e w1 ⟨rfl, hb1⟩
  go_wp2_with fail
  refine (Ht.out _).mono ?_
  rintro e w2 ⟨rfl, hb2⟩
  go_wp2
  go_ret
  exact ⟨by simp, hb1.trans (hb2.mono hb1.size)⟩

/-- A row of two words, of one word: the slice and its cells. -/
theorem own_two {w : World} {B : Nat} {v : Value} {x y : ByteArray} (h : w.ownsRow B 9 1 v 2 [.string x, .string y]) :
    ∃ g c, v = .slice (some ⟨g, 0, none⟩) 2 c ∧ g < w.heap.size ∧ w.cell? ⟨g, 0, none⟩ = some (.string x) ∧ w.cell? ⟨g, 1, none⟩ = some (.string y) := by
  have h' := h
  rcases h.2 with ⟨_, h0⟩ | ⟨g, cap, cur, rfl, hb, hh, _⟩
  · omega
  · exact ⟨g, cap, rfl, (Array.getElem?_eq_some_iff.1 hh).1, h'.cellAt 0 (by omega), h'.cellAt 1 (by omega)⟩
theorem own_one {w : World} {B : Nat} {v : Value} {y : ByteArray} (h : w.ownsRow B 9 1 v 1 [.string y]) :
    ∃ g c, v = .slice (some ⟨g, 0, none⟩) 1 c ∧ g < w.heap.size ∧ w.cell? ⟨g, 0, none⟩ = some (.string y) := by
  have h' := h
  rcases h.2 with ⟨_, h0⟩ | ⟨g, cap, cur, rfl, hb, hh, _⟩
  · omega
  · exact ⟨g, cap, rfl, (Array.getElem?_eq_some_iff.1 hh).1, h'.cellAt 0 (by omega)⟩

set_option maxHeartbeats 1000000 in
/-- The operator's text has one word, the negation's has two. -/
theorem negation_short (i : Nat) (hi : i < 10) (hi6 : 6 ≤ i) (s t x y p q : ByteArray) (w : World) (hs : w.cell? ⟨0, i, none⟩ = some (.string s)) (ht : w.cell? ⟨0, negOf i, none⟩ = some (.string t))
    (hn : negOf i < 10) (e1 : s.toList.isEmpty = false) (e2 : t.toList.isEmpty = false) (e3 : (s.toList == t.toList) = false) (z1 : s.size ≤ 6) (z2 : t.size ≤ 6)
    (ws : wordsW s = [y]) (wt : wordsW t = [p, q]) (hx : (x.toList == [110, 111, 116]) = true) (hy : (y.toList == [110, 111, 116]) = false) (hpq : (p = x ∧ q = y) ∨ (p = y ∧ q = x)) :
    Calls Tryd.prog 4 #[.int .u8 i] w fun e w' => e = .returned (.bool true) ∧ Below w.heap.size w w' := by
  have Hs := words_any s
  have Ht := words_any t
  rw [ws] at Hs
  rw [wt] at Ht
  have Hs : Hid _ := Hs
  have Ht : Hid _ := Ht
  clear ws wt
  have HX : Hid ((x.toList == [110, 111, 116]) = true) := hx
  have HY : Hid ((y.toList == [110, 111, 116]) = false) := hy
  have HP : Hid ((p = x ∧ q = y) ∨ (p = y ∧ q = x)) := hpq
  clear hx hy hpq
  go_enter Tryd.func4, Tryd.ntmps4
  go_wp2_with fail
  refine (neg_any i (by omega) _).mono ?_
  rintro e w' ⟨rfl, rfl⟩
  go_wp2_with fail
  refine (str_nat i (by omega) s _ hs).mono ?_
  rintro e w' ⟨rfl, rfl⟩
  go_wp2_with fail
  refine (str_nat _ hn t _ ht).mono ?_
  rintro e w' ⟨rfl, rfl⟩
  go_wp2_with fail
  refine (Hs.out _ (by omega)).mono ?_
  rintro e w1 ⟨v1, rfl, ho1, hb1⟩
  obtain ⟨g1, c1, rfl, hg1, hc1⟩ := own_one ho1
  clear ho1
  go_wp2_with fail
  refine (Ht.out _ (by omega)).mono ?_
  rintro e w2 ⟨v2, rfl, ho2, hb2⟩
  obtain ⟨g2, c2, rfl, hg2, hc2, hd2⟩ := own_two ho2
  clear ho2
  have hc1' : w2.cell? ⟨g1, 0, none⟩ = some (.string y) := (hb2.cell hg1).trans hc1
  clear hs ht hc1
  go_wp2_with fail
  rcases HP.out with ⟨rfl, rfl⟩ | ⟨rfl, rfl⟩
  · refine (iswn_head g2 g1 c2 c1 _ _ _ HX.out HY.out hc2 hd2 hc1').mono ?_
    rintro e w3 ⟨rfl, n, rfl⟩
    go_wp2
    go_ret
    exact ⟨rfl, below_drewN (hb1.trans (hb2.mono hb1.size)) n⟩
  · refine (iswn_tail g2 g1 c2 c1 _ _ _ HX.out HY.out hc2 hd2 hc1').mono ?_
    rintro e w3 ⟨rfl, n, rfl⟩
    go_wp2
    go_ret
    exact ⟨rfl, below_drewN (hb1.trans (hb2.mono hb1.size)) n⟩

set_option maxHeartbeats 1000000 in
/-- The operator's text has two words, the negation's has one. -/
theorem negation_long (i : Nat) (hi : i < 10) (hi6 : 6 ≤ i) (s t x y p q : ByteArray) (w : World) (hs : w.cell? ⟨0, i, none⟩ = some (.string s)) (ht : w.cell? ⟨0, negOf i, none⟩ = some (.string t))
    (hn : negOf i < 10) (e1 : s.toList.isEmpty = false) (e2 : t.toList.isEmpty = false) (e3 : (s.toList == t.toList) = false) (z1 : s.size ≤ 6) (z2 : t.size ≤ 6)
    (ws : wordsW s = [p, q]) (wt : wordsW t = [y]) (hx : (x.toList == [110, 111, 116]) = true) (hy : (y.toList == [110, 111, 116]) = false) (hpq : (p = x ∧ q = y) ∨ (p = y ∧ q = x)) :
    Calls Tryd.prog 4 #[.int .u8 i] w fun e w' => e = .returned (.bool true) ∧ Below w.heap.size w w' := by
  have Hs := words_any s
  have Ht := words_any t
  rw [ws] at Hs
  rw [wt] at Ht
  have Hs : Hid _ := Hs
  have Ht : Hid _ := Ht
  clear ws wt
  have HX : Hid ((x.toList == [110, 111, 116]) = true) := hx
  have HY : Hid ((y.toList == [110, 111, 116]) = false) := hy
  have HP : Hid ((p = x ∧ q = y) ∨ (p = y ∧ q = x)) := hpq
  clear hx hy hpq
  go_enter Tryd.func4, Tryd.ntmps4
  go_wp2_with fail
  refine (neg_any i (by omega) _).mono ?_
  rintro e w' ⟨rfl, rfl⟩
  go_wp2_with fail
  refine (str_nat i (by omega) s _ hs).mono ?_
  rintro e w' ⟨rfl, rfl⟩
  go_wp2_with fail
  refine (str_nat _ hn t _ ht).mono ?_
  rintro e w' ⟨rfl, rfl⟩
  go_wp2_with fail
  refine (Hs.out _ (by omega)).mono ?_
  rintro e w1 ⟨v1, rfl, ho1, hb1⟩
  obtain ⟨g1, c1, rfl, hg1, hc1, hd1⟩ := own_two ho1
  clear ho1
  go_wp2_with fail
  refine (Ht.out _ (by omega)).mono ?_
  rintro e w2 ⟨v2, rfl, ho2, hb2⟩
  obtain ⟨g2, c2, rfl, hg2, hc2⟩ := own_one ho2
  clear ho2
  have hc1' : w2.cell? ⟨g1, 0, none⟩ = some (.string p) := (hb2.cell hg1).trans hc1
  have hd1' : w2.cell? ⟨g1, 1, none⟩ = some (.string q) := (hb2.cell hg1).trans hd1
  clear hs ht hc1 hd1
  go_wp2_with fail
  rcases HP.out with ⟨rfl, rfl⟩ | ⟨rfl, rfl⟩
  · refine (iswn_head g1 g2 c1 c2 _ _ _ HX.out HY.out hc1' hd1' hc2).mono ?_
    rintro e w3 ⟨rfl, n, rfl⟩
    go_wp2
    go_ret
    exact ⟨rfl, below_drewN (hb1.trans (hb2.mono hb1.size)) n⟩
  · refine (iswn_tail g1 g2 c1 c2 _ _ _ HX.out HY.out hc1' hd1' hc2).mono ?_
    rintro e w3 ⟨rfl, n, rfl⟩
    go_wp2
    go_ret
    exact ⟨rfl, below_drewN (hb1.trans (hb2.mono hb1.size)) n⟩
end Go.Proofs.Qxb6609069aDoor

/-
  The law's own walk.
-/
import Derived.Test.Qxb6609140aOver
import Derived.WalkSmall
namespace Go.Proofs.Qxb6609140a
open Go.RowKit

abbrev sharedCells (m : Option Nat) : Array Value := #[.slice none 0 0, .slice none 0 0, .slice none 0 0, .slice none 0 0, .slice none 0 0, .string ⟨#[]⟩, .slice none 0 0, .map none, .map none, .map m]

/-- The first struct, its map stored. -/
theorem Sh.first {w w1 : World} {m : Option Nat} {n sz : Nat} {f : ByteArray → Option ByteArray} (hb : Below (w.heap.size + 1) (w.alloc (.cells (sharedCells none) 44)) w1) (hm : MapVal w1 (.map m) n f sz) (hlt : ∀ b, (Value.map m) = .map (some b) → w.heap.size + 1 ≤ b) :
    Sh (w1.setCell ⟨w.heap.size, 9, none⟩ (.map m)) w.heap.size m n f sz := by
  have h0 : w1.heap[w.heap.size]? = some (.cells (sharedCells none) 44 (0, 0)) := (hb.block _ (by omega)).trans (MapKept.heap_alloc w _).1
  refine ⟨?_, ?_⟩
  · show (w1.setCell ⟨w.heap.size, 9, none⟩ (.map m)).heap[w.heap.size]? = _
    simp only [World.setCell, Array.getElem?_modify, h0]
    simp
  · rcases hm with h | ⟨b, e, h⟩
    · exact .inl h
    · refine .inr ⟨b, e, h.of_block (Below.heap_setCell _ _ _ _ ?_)⟩
      have := hlt b e
      simp
      omega

set_option maxRecDepth 100000 in
set_option maxHeartbeats 4000000 in
theorem law_walk (a1 a2 : Option Addr) (len1 cap1 len2 cap2 : Nat) (K V : Nat → ByteArray) (x vx y vy : ByteArray) (w : World) (h1 : StrRow w a1 len1 K) (h2 : StrRow w a2 len2 V) (hl1 : len1 ≤ maxLen) (hl2 : len2 ≤ maxLen)
    (hK : ∀ i, i < len1 → (K i).size ≤ maxLen) (hV : ∀ i, i < len2 → (V i).size ≤ maxLen) (hx : x.size ≤ maxLen) (hvx : vx.size ≤ maxLen) (hy : y.size ≤ maxLen) (hvy : vy.size ≤ maxLen) (hn : a1 = none → len1 = 0) :
    Calls Try.prog 5 #[.slice a1 len1 cap1, .slice a2 len2 cap2, .string x, .string vx, .string y, .string vy] w fun e w' => e = .returned (.bool true) ∧ Below w.heap.size w w' := by
  have H1 : Hid (StrRow w a1 len1 K) := h1
  have H2 : Hid (StrRow w a2 len2 V) := h2
  have HN : Hid (a1 = none → len1 = 0) := hn
  have HK : Hid (∀ i, i < len1 → (K i).size ≤ maxLen) := hK
  have HV : Hid (∀ i, i < len2 → (V i).size ≤ maxLen) := hV
  clear h1 h2 hK hV hn
  go_enter Try.func5, Try.ntmps5
  go_wp2_with fail
  refine (bytes_any a1 a2 len1 cap1 len2 cap2 K V x vx y vy _ H1.out H2.out hl1 hl2 HK.out HV.out hx hvx hy hvy).mono ?_
  rintro e w0 ⟨⟨r, rfl, hr⟩, hw⟩
  subst hw
  cases r with
  | false =>
    clear hr
    go_wp2
    go_ret
    exact ⟨rfl, Below.refl _ _⟩
  | true =>
    have hs := hr rfl
    clear hr
    have HS : Hid (Small len1 len2 K V x vx y vy) := hs
    clear hs
    have hb1 := HS.out.l1
    have hb2 := HS.out.l2
    by_cases hc : len1 ≤ 4096 ∧ len2 ≤ 4096
    case neg =>
      go_wp2_with fail
      all_goals first | (exfalso; omega) | (go_ret; exact ⟨rfl, Below.refl _ _⟩)
    obtain ⟨hc1, hc2⟩ := hc
    go_wp2_with fail
    refine (addStrings_any 0 a1 len1 cap1 K _ (by omega) (by omega) H1.out hb1 HS.out.k).mono ?_
    rintro e w1 ⟨⟨t1, rfl, p1, q1⟩, hw⟩; subst hw
    go_wp2_with fail
    refine (addStrings_any t1 a2 len2 cap2 V _ p1 q1 H2.out hb2 HS.out.v).mono ?_
    rintro e w1 ⟨⟨t2, rfl, p2, q2⟩, hw⟩; subst hw
    go_wp2_with fail
    refine (addString_any t2 x _ p2 q2 HS.out.x).mono ?_
    rintro e w1 ⟨⟨t3, rfl, p3, q3⟩, hw⟩; subst hw
    go_wp2_with fail
    refine (addString_any t3 vx _ p3 q3 HS.out.y).mono ?_
    rintro e w1 ⟨⟨t4, rfl, p4, q4⟩, hw⟩; subst hw
    go_wp2_with fail
    refine (addString_any t4 y _ p4 q4 HS.out.z).mono ?_
    rintro e w1 ⟨⟨t5, rfl, p5, q5⟩, hw⟩; subst hw
    go_wp2_with fail
    refine (addString_any t5 vy _ p5 q5 HS.out.u).mono ?_
    rintro e w1 ⟨⟨t6, rfl, p6, q6⟩, hw⟩; subst hw
    clear p1 q1 p2 q2 p3 q3 p4 q4 p5 q5
    by_cases ht : t6 ≤ 1048576
    case neg =>
      go_wp2_with fail
      go_ret
      exact ⟨rfl, Below.refl _ _⟩
    by_cases hll : len1 = len2
    case neg =>
      have hne : ((len1 : Int) != (len2 : Int)) = true := by simp; omega
      clear hll
      go_wp2_with fail
      go_ret
      exact ⟨rfl, Below.refl _ _⟩
    subst hll
    go_wp2_with fail
    have hbA : Below w1.heap.size w1 (w1.alloc (.cells (sharedCells none) 44)) := (Below.refl _ _).alloc (Nat.le_refl _) _
    refine (attrMap_any a1 a2 len1 cap1 cap2 K V _ (H1.out.below hbA) (H2.out.below hbA) hc1 HK.out HV.out HN.out).mono ?_
    rintro e w2 ⟨⟨v, rfl, hmv, hvb⟩, hb2⟩
    obtain ⟨m, rfl⟩ : ∃ m, v = .map m := by
      rcases hmv with ⟨e, _⟩ | ⟨b, e, _⟩
      · exact ⟨_, e⟩
      · exact ⟨_, e⟩
    have hsz1 : (w1.alloc (.cells (sharedCells none) 44)).heap.size = w1.heap.size + 1 := by simp
    rw [hsz1] at hb2 hvb
    have HS0 : Hid (Sh (w2.setCell ⟨w1.heap.size, 9, none⟩ (.map m)) w1.heap.size m 4096 (base K V len1) (distTo K len1)) := Sh.first hb2 hmv hvb
    have HB0 : Hid (Below w1.heap.size w1 (w2.setCell ⟨w1.heap.size, 9, none⟩ (.map m))) := (hbA.trans (hb2.mono (by omega))).setCell (Nat.le_refl _) _
    have hfz : w2.frozen? ⟨w1.heap.size, 9, none⟩ = false := by
      have h0 : w2.heap[w1.heap.size]? = some (.cells (sharedCells none) 44 (0, 0)) := (hb2.block _ (by omega)).trans (MapKept.heap_alloc w1 _).1
      simp [World.frozen?, h0]
    have hcl : w2.cell? ⟨w1.heap.size, 9, none⟩ = some (.map none) := by
      have h0 : w2.heap[w1.heap.size]? = some (.cells (sharedCells none) 44 (0, 0)) := (hb2.block _ (by omega)).trans (MapKept.heap_alloc w1 _).1
      simp [World.cell?, h0]
    clear hmv hvb hb2 hsz1 hbA
    go_wp2_with fail
    obtain ⟨W0, hW0⟩ : ∃ W, W = w2.setCell ⟨w1.heap.size, 9, none⟩ (.map m) := ⟨_, rfl⟩
    rw [← hW0] at HS0 HB0 ⊢
    clear hW0 hfz hcl
    refine (with_any w1.heap.size m 4096 (distTo K len1) (base K V len1) x vx W0 HS0.out.1 HS0.out.2 (by unfold maxLen; omega) hx hvx).mono ?_
    rintro e w3 ⟨⟨ba, rfl, _, hma⟩, hb3⟩
    have HA : Hid (Sh (w3.alloc (.cells (sharedCells (some ba)) 44)) w3.heap.size (some ba) (4096 + 1) (put (base K V len1) x vx) (szPut (base K V len1) x (distTo K len1))) := Sh.new hma
    have hbn : Below W0.heap.size W0 (w3.alloc (.cells (sharedCells (some ba)) 44)) := hb3.alloc hb3.size _
    have HS0' := HS0.out.below hbn
    have HB' := HB0.out.trans (hbn.mono HB0.out.size)
    clear HS0 HB0 hbn hma hb3
    go_wp2_with fail
    obtain ⟨W1, hWn⟩ : ∃ W, W = w3.alloc (.cells (sharedCells (some ba)) 44) := ⟨_, rfl⟩
    rw [← hWn] at HA HB' HS0' ⊢
    clear hWn
    have HS0 : Hid (Sh W1 w1.heap.size m 4096 (base K V len1) (distTo K len1)) := HS0'
    have HB0 : Hid (Below w1.heap.size w1 W1) := HB'
    clear HB' HS0'
    refine (with_any w3.heap.size (some ba) (4096 + 1) _ _ y vy W1 HA.out.1 HA.out.2 (by unfold maxLen; omega) hy hvy).mono ?_
    rintro e w4 ⟨⟨bab, rfl, _, hmab⟩, hb4⟩
    have HAB : Hid (Sh (w4.alloc (.cells (sharedCells (some bab)) 44)) w4.heap.size (some bab) (4096 + 1 + 1) (put (put (base K V len1) x vx) y vy) (szPut (put (base K V len1) x vx) y (szPut (base K V len1) x (distTo K len1)))) := Sh.new hmab
    have hbn : Below W1.heap.size W1 (w4.alloc (.cells (sharedCells (some bab)) 44)) := hb4.alloc hb4.size _
    have HS0' := HS0.out.below hbn
    have HA' := HA.out.below hbn
    have HB' := HB0.out.trans (hbn.mono HB0.out.size)
    clear HS0 HA HB0 hbn hmab hb4
    go_wp2_with fail
    obtain ⟨W2, hWn⟩ : ∃ W, W = w4.alloc (.cells (sharedCells (some bab)) 44) := ⟨_, rfl⟩
    rw [← hWn] at HAB HB' HS0' HA' ⊢
    clear hWn
    have HS0 : Hid (Sh W2 w1.heap.size m 4096 (base K V len1) (distTo K len1)) := HS0'
    have HA : Hid (Sh W2 w3.heap.size (some ba) (4096 + 1) (put (base K V len1) x vx) (szPut (base K V len1) x (distTo K len1))) := HA'
    have HB0 : Hid (Below w1.heap.size w1 W2) := HB'
    clear HB' HS0' HA'
    refine (with_any w1.heap.size m 4096 _ _ y vy W2 HS0.out.1 HS0.out.2 (by unfold maxLen; omega) hy hvy).mono ?_
    rintro e w5 ⟨⟨bb, rfl, _, hmb⟩, hb5⟩
    have HBv : Hid (Sh (w5.alloc (.cells (sharedCells (some bb)) 44)) w5.heap.size (some bb) (4096 + 1) (put (base K V len1) y vy) (szPut (base K V len1) y (distTo K len1))) := Sh.new hmb
    have hbn : Below W2.heap.size W2 (w5.alloc (.cells (sharedCells (some bb)) 44)) := hb5.alloc hb5.size _
    have HS0' := HS0.out.below hbn
    have HA' := HA.out.below hbn
    have HAB' := HAB.out.below hbn
    have HB' := HB0.out.trans (hbn.mono HB0.out.size)
    clear HS0 HA HAB HB0 hbn hmb hb5
    go_wp2_with fail
    obtain ⟨W3, hWn⟩ : ∃ W, W = w5.alloc (.cells (sharedCells (some bb)) 44) := ⟨_, rfl⟩
    rw [← hWn] at HBv HB' HS0' HA' HAB' ⊢
    clear hWn
    have HS0 : Hid (Sh W3 w1.heap.size m 4096 (base K V len1) (distTo K len1)) := HS0'
    have HA : Hid (Sh W3 w3.heap.size (some ba) (4096 + 1) (put (base K V len1) x vx) (szPut (base K V len1) x (distTo K len1))) := HA'
    have HAB : Hid (Sh W3 w4.heap.size (some bab) (4096 + 1 + 1) (put (put (base K V len1) x vx) y vy) (szPut (put (base K V len1) x vx) y (szPut (base K V len1) x (distTo K len1)))) := HAB'
    have HB0 : Hid (Below w1.heap.size w1 W3) := HB'
    clear HB' HS0' HA' HAB'
    refine (with_any w5.heap.size (some bb) (4096 + 1) _ _ x vx W3 HBv.out.1 HBv.out.2 (by unfold maxLen; omega) hx hvx).mono ?_
    rintro e w6 ⟨⟨bba, rfl, _, hmba⟩, hb6⟩
    have HBA : Hid (Sh (w6.alloc (.cells (sharedCells (some bba)) 44)) w6.heap.size (some bba) (4096 + 1 + 1) (put (put (base K V len1) y vy) x vx) (szPut (put (base K V len1) y vy) x (szPut (base K V len1) y (distTo K len1)))) := Sh.new hmba
    have hbn : Below W3.heap.size W3 (w6.alloc (.cells (sharedCells (some bba)) 44)) := hb6.alloc hb6.size _
    have HA' := HA.out.below hbn
    have HAB' := HAB.out.below hbn
    have HBv' := HBv.out.below hbn
    have HB' := HB0.out.trans (hbn.mono HB0.out.size)
    clear HA HAB HBv HB0 hbn hmba hb6
    have cA0 := HA'.cell; have cAB0 := HAB'.cell; have cB0 := HBv'.cell; have cBA0 := HBA.out.cell
    go_wp2_with fail
    clear cA0 cAB0 cB0 cBA0
    obtain ⟨W4, hWn⟩ : ∃ W, W = w6.alloc (.cells (sharedCells (some bba)) 44) := ⟨_, rfl⟩
    rw [← hWn] at HBA HB' HA' HAB' HBv' ⊢
    clear hWn
    have HA : Hid (Sh W4 w3.heap.size (some ba) (4096 + 1) (put (base K V len1) x vx) (szPut (base K V len1) x (distTo K len1))) := HA'
    have HAB : Hid (Sh W4 w4.heap.size (some bab) (4096 + 1 + 1) (put (put (base K V len1) x vx) y vy) (szPut (put (base K V len1) x vx) y (szPut (base K V len1) x (distTo K len1)))) := HAB'
    have HBv : Hid (Sh W4 w5.heap.size (some bb) (4096 + 1) (put (base K V len1) y vy) (szPut (base K V len1) y (distTo K len1))) := HBv'
    have HB0 : Hid (Below w1.heap.size w1 W4) := HB'
    clear HB' HA' HAB' HBv'
    have cA := HA.out.cell
    have cAB := HAB.out.cell
    have cB := HBv.out.cell
    have cBA := HBA.out.cell
    have HK4 : Hid (StrRow W4 a1 len1 K) := H1.out.below HB0.out
    have HV4 : Hid (StrRow W4 a2 len1 V) := H2.out.below HB0.out
    have HmA : Hid (MapIs W4 ba (4096 + 1) (put (base K V len1) x vx) (szPut (base K V len1) x (distTo K len1))) := HA.out.map
    have HmAB : Hid (MapIs W4 bab (4096 + 1 + 1) (put (put (base K V len1) x vx) y vy) (szPut (put (base K V len1) x vx) y (szPut (base K V len1) x (distTo K len1)))) := HAB.out.map
    have HmB : Hid (MapIs W4 bb (4096 + 1) (put (base K V len1) y vy) (szPut (base K V len1) y (distTo K len1))) := HBv.out.map
    have HmBA : Hid (MapIs W4 bba (4096 + 1 + 1) (put (put (base K V len1) y vy) x vx) (szPut (put (base K V len1) y vy) x (szPut (base K V len1) y (distTo K len1)))) := HBA.out.map
    clear HA HAB HBv HBA H1 H2
    refine (attrs_any bab _ _ _ a1 a2 len1 cap1 cap2 K V x vx true y vy W4 HK4.out HV4.out hc1 HmAB.out HK.out hx hy (size2 K V len1 x vx y) (fun i hi => over2 K V len1 x vx y vy _ (.inr (.inr (in_of K _ i (eq_true_of rfl) len1 hi)))) (over2 K V len1 x vx y vy _ (.inr (.inl rfl))) (fun _ => over2 K V len1 x vx y vy _ (.inl rfl))).mono ?_
    rintro e w7 ⟨rfl, m1, rfl⟩
    go_wp2_with fail
    refine (attrs_any bba _ _ _ a1 a2 len1 cap1 cap2 K V y vy true x vx _ (HK4.out.drewN _) (HV4.out.drewN _) hc1 (HmBA.out.drewN _) HK.out hy hx (size2 K V len1 y vy x) (fun i hi => over2 K V len1 y vy x vx _ (.inr (.inr (in_of K _ i (eq_true_of rfl) len1 hi)))) (over2 K V len1 y vy x vx _ (.inr (.inl rfl))) (fun _ => over2 K V len1 y vy x vx _ (.inl rfl))).mono ?_
    rintro e w7 ⟨rfl, m2, rfl⟩
    go_wp2_with fail
    refine (attrs_any ba _ _ _ a1 a2 len1 cap1 cap2 K V x vx false _ _ _ (HK4.out.drewN _) (HV4.out.drewN _) hc1 (HmA.out.drewN _) HK.out hx (by decide) (size1 K V len1 x _) (fun i hi => over1 K V len1 x vx _ _ _ (.inr (in_of K _ i (eq_true_of rfl) len1 hi))) (over1 K V len1 x vx _ _ _ (.inl rfl)) (fun h => by cases h)).mono ?_
    rintro e w7 ⟨rfl, m3, rfl⟩
    go_wp2_with fail
    refine (attrs_any bb _ _ _ a1 a2 len1 cap1 cap2 K V y vy false _ _ _ (HK4.out.drewN _) (HV4.out.drewN _) hc1 (HmB.out.drewN _) HK.out hy (by decide) (size1 K V len1 y _) (fun i hi => over1 K V len1 y vy _ _ _ (.inr (in_of K _ i (eq_true_of rfl) len1 hi))) (over1 K V len1 y vy _ _ _ (.inl rfl)) (fun h => by cases h)).mono ?_
    rintro e w7 ⟨rfl, m4, rfl⟩
    cases hxy : (x.toList == y.toList)
    · have hne : x ≠ y := fun e => by rw [eq_true_of e] at hxy; cases hxy
      have HmBA' : Hid (MapIs W4 bba (4096 + 1 + 1) (put (put (base K V len1) x vx) y vy) (szPut (put (base K V len1) x vx) y (szPut (base K V len1) x (distTo K len1)))) := by
        have h := HmBA.out
        rw [over_comm _ _ _ _ _ hne, size2, want_comm _ _ _ _ hne, ← size2 K V len1 x vx y] at h
        exact h
      clear hne
      go_wp2_with fail
      refine (same_any bab bba _ _ _ a1 len1 cap1 K x y _ (HK4.out.drewN _) hc1 (HmAB.out.drewN _) (HmBA'.out.drewN _) HK.out hx hy).mono ?_
      rintro e w7 ⟨rfl, hw⟩
      subst hw
      go_wp2
      go_ret
      exact ⟨rfl, below_drewN HB0.out _⟩
    · go_wp2
      go_ret
      exact ⟨rfl, below_drewN HB0.out _⟩
end Go.Proofs.Qxb6609140a

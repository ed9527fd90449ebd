/-
  The first law's walk.
-/
import Derived.Test.Qxb6614740aMade
namespace Go.Proofs.Qxb6614740a
open Go.RowKit
set_option linter.unusedVariables false

/-- The plain step: the next turn's place in the list. -/
theorem next_place {n c c1 q q1 : Nat} (hn : 0 < n) (hq : q = c % n) (hc1 : c1 = (c + 1) % 18446744073709551616) (hc : c < 18446744073709551616) (hq1 : q1 = c1 % n) (h0 : c1 ≠ 0) :
    q1 = if q + 1 = n then 0 else q + 1 := by
  have e : c1 = c + 1 := by omega
  subst e
  subst hq hq1
  have hlt := Nat.mod_lt c hn
  have hd := Nat.div_add_mod c n
  by_cases h : c % n + 1 = n
  · rw [if_pos h, show c + 1 = n * (c / n + 1) by rw [Nat.mul_add]; omega]
    simp
  · rw [if_neg h, show c + 1 = (c % n + 1) + n * (c / n) by omega, Nat.add_mul_mod_self_left, Nat.mod_eq_of_lt (by omega)]

set_option maxHeartbeats 4000000 in
theorem law7 (T b o n cp b2 o2 m d : Nat) (B P : Nat → Int) (w : World) (hT : T < 18446744073709551616) (hn0 : 0 < n) (hn2 : n ≤ 65536) (hm2 : m ≤ 65536) (hbs : b < w.heap.size) (hbs2 : b2 < w.heap.size) (hb : Hid (Ints w b o n B)) (hp : Hid (Ints w b2 o2 m P)) (hnm : n ≤ maxLen) (hmm : m ≤ maxLen) :
    Calls Try.prog 7 #[.int .u64 T, .slice (some ⟨b, o, none⟩) n cp, .slice (some ⟨b2, o2, none⟩) m d] w fun e w' => e = .returned (.bool true) ∧ Below w.heap.size w w' := by
  go_enter Try.func7, Try.ntmps7
  go_wp2_with fail
  refine (bytes23 T _ _ n cp m d w hnm hmm).mono ?_
  rintro e w' ⟨⟨r, rfl, hr⟩, hw⟩
  obtain rfl := hw.symm
  clear hr
  cases r
  · go_wp2
    go_ret
    exact ⟨rfl, Below.refl _ _⟩
  by_cases h3 : n + m ≤ 131072
  rotate_left
  · exfalso; omega
  go_wp2_with fail
  refine (valid_any b o n cp b2 o2 m d B P w hn2 hm2 hb hp).mono ?_
  rintro e w' ⟨⟨r, rfl, hr⟩, hw⟩
  obtain rfl := hw.symm
  cases r
  · clear hr
    go_wp2
    go_ret
    exact ⟨rfl, Below.refl _ _⟩
  have HF : Hid (Fits n m B P) := hr rfl
  clear hr
  go_wp2_with fail
  refine (clone_some b o n cp B w (by omega) hbs hb).mono ?_
  rintro e w1 ⟨rfl, hw1⟩
  have H1 : Hid (Row w1 w.heap.size n B ∧ Below w.heap.size w w1 ∧ w1.heap.size = w.heap.size + 1) := hw1
  clear hw1
  have hp1 : Hid (Ints w1 b2 o2 m P) := fun i hi => (H1.out.2.1.cell hbs2).trans (hp.out i hi)
  have hbs3 : b2 < w1.heap.size := by have := H1.out.2.2; omega
  go_wp2_with fail
  refine (clone_some b2 o2 m d P w1 (by omega) hbs3 hp1).mono ?_
  rintro e w2 ⟨rfl, hw2⟩
  have HM : Hid (Made w ((w2.alloc (balObj T)).alloc (.cells #[.slice (some ⟨w.heap.size, 0, none⟩) n n, .slice (some ⟨w1.heap.size, 0, none⟩) m m] 78)) n m T B) := Made.mk' (P := P) _ H1.out.1 H1.out.2.1 H1.out.2.2 hw2.2.1 hw2.2.2 hn0 hn2 hT
  have e2 : w2.heap.size = w.heap.size + 2 := by have := H1.out.2.2; have := hw2.2.2; omega
  clear hw2 H1 hp1
  go_wp2_with fail
  refine (newBal_any T w2).mono ?_
  rintro e w3 ⟨rfl, hw3⟩
  rw [e2]
  obtain rfl := hw3.symm
  go_wp2_with fail
  refine (newSet_any _ _ _ _ _ _ _).mono ?_
  rintro e w4 ⟨rfl, hw4⟩
  have e3 : (w2.alloc (balObj T)).heap.size = w.heap.size + 3 := by show (w2.heap.push _).size = _; simp [e2]
  rw [e3]
  rw [← hw4] at HM
  clear hw4 e2 e3
  have HA : Hid (At w4 (w.heap.size + 2) (w.heap.size + 3) w.heap.size n T B) := HM.out.at_
  have HB : Hid (Below w.heap.size w w4) := HM.out.below
  clear HM
  have HA' : Hid (At (picked w4 (w.heap.size + 2) T) (w.heap.size + 2) (w.heap.size + 3) w.heap.size n ((T + 1) % 18446744073709551616) B) := HA.out.next
  have HB' : Hid (Below w.heap.size w (picked w4 (w.heap.size + 2) T)) := picked_below HB.out (by omega)
  obtain ⟨q, hq, hqn⟩ : ∃ q : Nat, q = T % n ∧ q < n := ⟨_, rfl, Nat.mod_lt _ hn0⟩
  have hc : (picked w4 (w.heap.size + 2) T).cell? ⟨b, o + q, none⟩ = some (.int .i64 (B q)) := (HB'.out.cell hbs).trans (hb.out q hqn)
  have hk1 : IntKind.u64.wrap (n : Int) = n := by rw [IntKind.wrap_u64]; omega
  have hk3 : ((n : Int) == 0) = false := by simp; omega
  have hk4 : (T : Int).tmod n = (q : Int) := by rw [Int.tmod_eq_emod_of_nonneg (by omega), hq]; simp
  have hk5 : IntKind.u64.wrap (q : Int) = (q : Int) := by rw [IntKind.wrap_u64]; omega
  have hk6 : IntKind.i64.wrap (q : Int) = (q : Int) := by rw [IntKind.wrap_i64]; omega
  have HQ : Hid (q = T % n) := hq
  clear hq
  go_wp2_with fail
  refine (ZZpick_any _ _ _ n T B w4 HA).mono ?_
  rintro e w5 ⟨rfl, hw5⟩
  rw [← HQ.out]
  rw [← hw5] at HA' HB' hc
  clear hw5
  go_wp2_with fail
  clear hk4 hk5 hk6 hc HA HB
  have hmul : ∀ k : Nat, decide ((k : Int) < 2 * (n : Int) + 1) = decide (k < 2 * n + 1) := fun k => by
    by_cases h : k < 2 * n + 1
    · rw [decide_eq_true h, decide_eq_true (by omega)]
    · rw [decide_eq_false h, decide_eq_false (by omega)]
  go_loopw [12, 13, 14] (fun p c i wr => ∃ (k c' q : Nat), k ≤ 2 * n + 1 ∧ i = .int .i64 k ∧ c = .int .u64 c' ∧ p = .int .i64 (B q) ∧ q < n ∧ Hid (q = c' % n ∧ c' = (T + k) % 18446744073709551616) ∧ Hid (At wr (w.heap.size + 2) (w.heap.size + 3) w.heap.size n ((c' + 1) % 18446744073709551616) B) ∧ Hid (Below w.heap.size w wr)) (fun _ _ i _ => 2 * n + 1 - (intOf i).toNat)
  case atStart => exact ⟨0, T, q, Nat.zero_le _, rfl, rfl, rfl, hqn, ⟨HQ.out, by omega⟩, HA', HB'⟩
  case round =>
    clear HA' HB' HQ hqn
    obtain ⟨k, c, q, hk, rfl, rfl, rfl, hqn, HQ, HA, HB⟩ := hrel
    by_cases hlt : k < 2 * n + 1
    · obtain ⟨c1, hc1, hc1l⟩ : ∃ c1 : Nat, c1 = (c + 1) % 18446744073709551616 ∧ c1 < 18446744073709551616 := ⟨_, rfl, Nat.mod_lt _ (by decide)⟩
      have hcl : c < 18446744073709551616 := by have := HQ.out.2; omega
      rw [← hc1] at HA
      obtain ⟨q1, hq1, hq1n⟩ : ∃ q1 : Nat, q1 = c1 % n ∧ q1 < n := ⟨_, rfl, Nat.mod_lt _ hn0⟩
      have HA1 : Hid (At (picked wr (w.heap.size + 2) c1) (w.heap.size + 2) (w.heap.size + 3) w.heap.size n ((c1 + 1) % 18446744073709551616) B) := HA.out.next
      have HB1 : Hid (Below w.heap.size w (picked wr (w.heap.size + 2) c1)) := picked_below HB.out (by omega)
      have HQ1 : Hid (q1 = c1 % n ∧ c1 = (T + (k + 1)) % 18446744073709551616) := ⟨hq1, by have := HQ.out.2; omega⟩
      have hadd : IntKind.u64.wrap ((c : Int) + 1) = (c1 : Int) := by rw [IntKind.wrap_u64]; omega
      have g0 : wr.cell? ⟨b, o, none⟩ = some (.int .i64 (B 0)) := (HB.out.cell hbs).trans (hb.out 0 hn0)
      obtain ⟨z, hz, hzm⟩ : ∃ z : Nat, B q = z ∧ z < m := ⟨(B q).toNat, by have := HF.out q hqn; omega, by have := HF.out q hqn; omega⟩
      have hpz : P z = q := by have := (HF.out q hqn).2.2; rw [hz] at this; simpa using this
      have g1 : wr.cell? ⟨b2, o2 + z, none⟩ = some (.int .i64 (q : Int)) := by
        have := (HB.out.cell hbs2).trans (hp.out z hzm)
        rw [hpz] at this
        exact this
      rw [hz]
      by_cases hzero : c1 = 0
      · have hb0 : ((c1 : Int) != 0) = false := by simp [hzero]
        have HX : B q1 = B 0 := by rw [hq1, hzero]; simp
        have HX' : Hid (B q1 = B 0) := HX
        clear hzero hc1 hz hpz
        go_wp2_with fail
        refine (ZZpick_any _ _ _ n c1 B wr HA).mono ?_
        rintro e w6 ⟨rfl, hw6⟩
        rw [← hq1, HX]
        rw [← hw6] at HA1 HB1
        clear hw6 hq1 HX
        go_wp2
        go_roundw
        case rel => exact ⟨k + 1, c1, q1, by omega, by go_num, rfl, by rw [HX'.out], hq1n, HQ1, HA1, HB1⟩
        case measure => simp [intOf]; omega
      · have HX := next_place hn0 HQ.out.1 hc1 hcl hq1 hzero
        have hb0 : ((c1 : Int) != 0) = true := by simp [hzero]
        clear hzero hc1 hz hpz
        by_cases hw : q + 1 = n
        · rw [if_pos hw] at HX
          have HX' : Hid (q1 = 0) := HX
          have ht : (((q : Int) + 1) == (n : Int)) = true := by simp; omega
          clear hw HX
          go_wp2_with fail
          refine (ZZpick_any _ _ _ n c1 B wr HA).mono ?_
          rintro e w6 ⟨rfl, hw6⟩
          rw [← hq1, HX'.out]
          rw [← hw6] at HA1 HB1
          clear hw6 hq1
          go_wp2
          go_roundw
          case rel => exact ⟨k + 1, c1, q1, by omega, by go_num, rfl, by rw [HX'.out], hq1n, HQ1, HA1, HB1⟩
          case measure => simp [intOf]; omega
        · rw [if_neg hw] at HX
          have HX' : Hid (q1 = q + 1) := HX
          have ht : (((q : Int) + 1) == (n : Int)) = false := by simp; omega
          have g2 : wr.cell? ⟨b, o + (q + 1), none⟩ = some (.int .i64 (B (q + 1))) := (HB.out.cell hbs).trans (hb.out (q + 1) (by omega))
          clear HX
          go_wp2_with fail
          refine (ZZpick_any _ _ _ n c1 B wr HA).mono ?_
          rintro e w6 ⟨rfl, hw6⟩
          rw [← hq1, HX'.out]
          rw [← hw6] at HA1 HB1
          clear hw6 hq1
          go_wp2
          go_roundw
          case rel => exact ⟨k + 1, c1, q1, by omega, by go_num, rfl, by rw [HX'.out], hq1n, HQ1, HA1, HB1⟩
          case measure => simp [intOf]; omega
    · have hk' : k = 2 * n + 1 := by omega
      have ht := HA.out.turn
      have hsum : IntKind.u64.wrap ((T : Int) + (2 * (n : Int) + 2)) = (((c + 1) % 18446744073709551616 : Nat) : Int) := by
        rw [IntKind.wrap_u64]
        have := HQ.out.2
        omega
      have hconv : IntKind.u64.wrap (2 * (n : Int) + 2) = 2 * (n : Int) + 2 := by rw [IntKind.wrap_u64]; omega
      generalize (c + 1) % 18446744073709551616 = C at ht hsum HA
      clear HQ
      go_wp2_with fail
      refine (turns_any _ C wr ht).mono ?_
      rintro e w6 ⟨rfl, hw6⟩
      obtain rfl := hw6.symm
      go_wp2
      go_ret
      exact ⟨rfl, HB.out⟩

set_option maxHeartbeats 4000000 in
/-- A list too long, or no backend: nothing is asked. -/
theorem early7 (T : Int) (a a2 : Option Addr) (n cp m d : Nat) (w : World) (hnm : n ≤ maxLen) (hmm : m ≤ maxLen) (h : 65536 < n ∨ 65536 < m ∨ n = 0) :
    Calls Try.prog 7 #[.int .u64 T, .slice a n cp, .slice a2 m d] w fun e w' => e = .returned (.bool true) ∧ Below w.heap.size w w' := by
  go_enter Try.func7, Try.ntmps7
  go_wp2_with fail
  refine (bytes23 T _ _ n cp m d w hnm hmm).mono ?_
  rintro e w' ⟨⟨r, rfl, hr⟩, hw⟩
  obtain rfl := hw.symm
  cases r
  · clear hr
    go_wp2
    go_ret
    exact ⟨rfl, Below.refl _ _⟩
  obtain ⟨h1, h2⟩ := hr rfl
  clear hr
  by_cases c1 : 65536 < n
  · clear h
    go_wp2
    go_ret
    exact ⟨rfl, Below.refl _ _⟩
  by_cases c2 : 65536 < m
  · clear h
    go_wp2
    go_ret
    exact ⟨rfl, Below.refl _ _⟩
  obtain rfl : n = 0 := by omega
  clear h
  go_wp2
  go_ret
  exact ⟨rfl, Below.refl _ _⟩

set_option maxHeartbeats 4000000 in
/-- No place: the two lists are no set. -/
theorem empty7 (T : Int) (b o : Nat) (a2 : Option Addr) (n cp d : Nat) (B : Nat → Int) (w : World) (hn0 : 0 < n) (hn2 : n ≤ 65536) (hb : Hid (Ints w b o n B)) :
    Calls Try.prog 7 #[.int .u64 T, .slice (some ⟨b, o, none⟩) n cp, .slice a2 0 d] w fun e w' => e = .returned (.bool true) ∧ Below w.heap.size w w' := by
  go_enter Try.func7, Try.ntmps7
  go_wp2_with fail
  refine (bytes23 T _ _ n cp 0 d w (by unfold maxLen; omega) (by unfold maxLen; omega)).mono ?_
  rintro e w' ⟨⟨r, rfl, hr⟩, hw⟩
  obtain rfl := hw.symm
  clear hr
  cases r
  · go_wp2
    go_ret
    exact ⟨rfl, Below.refl _ _⟩
  go_wp2_with fail
  refine (valid_empty b o n cp d a2 B w hn0 hn2 hb.out).mono ?_
  rintro e w' ⟨rfl, hw⟩
  obtain rfl := hw.symm
  go_wp2
  go_ret
  exact ⟨rfl, Below.refl _ _⟩
end Go.Proofs.Qxb6614740a

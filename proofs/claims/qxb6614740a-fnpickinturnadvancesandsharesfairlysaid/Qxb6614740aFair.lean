/-
  The second law's walk.
-/
import Derived.Test.Qxb6614740aHits
namespace Go.Proofs.Qxb6614740a
open Go.RowKit
set_option linter.unusedVariables false

/-- The counts behind k picks. -/
structure Cnt (w : World) (g m n T k : Nat) (B : Nat → Int) (C : Nat → Nat) : Prop where
  row : Row w g m (fun j => (C j : Int))
  hit : ∀ i, i < n → C (B i).toNat = hits T n i k
  le : ∀ j, C j ≤ k

theorem Cnt.step {w : World} {g m n T k z q : Nat} {B P : Nat → Int} {C : Nat → Nat} (h : Cnt w g m n T k B C) (hf : Fits n m B P) (hq : q = (T + k) % 18446744073709551616 % n) (hqn : q < n) (hz : B q = z) :
    Cnt (w.setCell ⟨g, z, none⟩ (.int .i64 ((C z : Int) + 1))) g m n T (k + 1) B (fun j => if j = z then C z + 1 else C j) where
  row := (h.row.set z _).congr fun i hi => by by_cases e : i = z <;> simp [e]
  hit i hi := by
    show (if (B i).toNat = z then C z + 1 else C (B i).toNat) = hits T n i k + _
    rw [← hq]
    by_cases e : q = i
    · subst e
      rw [if_pos (by omega), if_pos rfl, ← h.hit q hi, hz]
      simp
    · rw [if_neg (fun c => e ?_), if_neg e, h.hit i hi]
      · simp
      · have h1 := (hf i hi).2.2
        have h2 := (hf q hqn).2.2
        rw [hz] at h2
        simp only [Int.toNat_natCast] at h2
        rw [c] at h1
        omega
  le j := by
    have := h.le j
    have := h.le z
    by_cases e : j = z
    · simp only [e, if_true]; omega
    · simp only [e, if_false]; omega

theorem Cnt.of_block {w w' : World} {g m n T k : Nat} {B : Nat → Int} {C : Nat → Nat} (h : Cnt w g m n T k B C) (hb : w'.heap[g]? = w.heap[g]?) : Cnt w' g m n T k B C := ⟨h.row.of_block hb, h.hit, h.le⟩

theorem At.of_blocks {w w' : World} {bb sb g n T : Nat} {B : Nat → Int} (h : At w bb sb g n T B) (h1 : w'.heap[bb]? = w.heap[bb]?) (h2 : w'.heap[sb]? = w.heap[sb]?) (h3 : w'.heap[g]? = w.heap[g]?) : At w' bb sb g n T B where
  turn := (World.cell?_of_block (w := w) h1).trans h.turn
  free := (World.frozen?_of_block (w := w) h1).trans h.free
  set := (World.cell?_of_block (w := w) h2).trans h.set
  ne1 := h.ne1
  ne2 := h.ne2
  row i hi := (World.cell?_of_block (w := w) h3).trans (h.row i hi)
  pos := h.pos
  few := h.few
  lt := h.lt

set_option maxHeartbeats 4000000 in
theorem law8 (T b o n cp b2 o2 m d M : Nat) (B P : Nat → Int) (w : World) (hT : T < 18446744073709551616) (hn0 : 0 < n) (hn2 : n ≤ 65536) (hm2 : m ≤ 65536) (hM : M ≤ 65536) (hbs : b < w.heap.size) (hbs2 : b2 < w.heap.size) (hb : Hid (Ints w b o n B)) (hp : Hid (Ints w b2 o2 m P)) (hnm : n ≤ maxLen) (hmm : m ≤ maxLen) :
    Calls Try.prog 8 #[.int .u64 T, .slice (some ⟨b, o, none⟩) n cp, .slice (some ⟨b2, o2, none⟩) m d, .int .i64 M] w fun e w' => e = .returned (.bool true) ∧ Below w.heap.size w w' := by
  have hmk := mk_ints m (by omega)
  have hM0 : decide ((M : Int) < 0) = false := decide_eq_false (by omega)
  have hM1 : decide ((65536 : Int) < (M : Int)) = false := decide_eq_false (by omega)
  go_enter Try.func8, Try.ntmps8
  go_wp2_with fail
  refine (bytes30 T _ _ n cp m d M w hnm hmm).mono ?_
  rintro e w' ⟨⟨r, rfl, hr⟩, hw⟩
  obtain rfl := hw.symm
  clear hr
  cases r
  · go_wp2
    go_ret
    exact ⟨rfl, Below.refl _ _⟩
  by_cases h3 : n + m ≤ 131072
  rotate_left
  · exfalso; omega
  go_wp2_with fail
  refine (valid_any b o n cp b2 o2 m d B P w hn2 hm2 hb hp).mono ?_
  rintro e w' ⟨⟨r, rfl, hr⟩, hw⟩
  obtain rfl := hw.symm
  cases r
  · clear hr
    go_wp2
    go_ret
    exact ⟨rfl, Below.refl _ _⟩
  have HF : Hid (Fits n m B P) := hr rfl
  clear hr
  go_wp2_with fail
  refine (clone_some b o n cp B w (by omega) hbs hb).mono ?_
  rintro e w1 ⟨rfl, hw1⟩
  have H1 : Hid (Row w1 w.heap.size n B ∧ Below w.heap.size w w1 ∧ w1.heap.size = w.heap.size + 1) := hw1
  clear hw1
  have hp1 : Hid (Ints w1 b2 o2 m P) := fun i hi => (H1.out.2.1.cell hbs2).trans (hp.out i hi)
  have hbs3 : b2 < w1.heap.size := by have := H1.out.2.2; omega
  go_wp2_with fail
  refine (clone_some b2 o2 m d P w1 (by omega) hbs3 hp1).mono ?_
  rintro e w2 ⟨rfl, hw2⟩
  have HM : Hid (Made w ((w2.alloc (balObj T)).alloc (.cells #[.slice (some ⟨w.heap.size, 0, none⟩) n n, .slice (some ⟨w1.heap.size, 0, none⟩) m m] 78)) n m T B) := Made.mk' (P := P) _ H1.out.1 H1.out.2.1 H1.out.2.2 hw2.2.1 hw2.2.2 hn0 hn2 hT
  have e2 : w2.heap.size = w.heap.size + 2 := by have := H1.out.2.2; have := hw2.2.2; omega
  clear hw2 H1 hp1
  go_wp2_with fail
  refine (newBal_any T w2).mono ?_
  rintro e w3 ⟨rfl, hw3⟩
  rw [e2]
  obtain rfl := hw3.symm
  go_wp2_with fail
  refine (newSet_any _ _ _ _ _ _ _).mono ?_
  rintro e w4 ⟨rfl, hw4⟩
  have e3 : (w2.alloc (balObj T)).heap.size = w.heap.size + 3 := by show (w2.heap.push _).size = _; simp [e2]
  rw [e3]
  rw [← hw4] at HM
  clear hw4 e2 e3
  have es : w4.heap.size = w.heap.size + 4 := HM.out.size
  have HA : Hid (At (w4.alloc (.cells (madeCells #[.int .i64 0] m) 3)) (w.heap.size + 2) (w.heap.size + 3) w.heap.size n (T % 18446744073709551616) B) := by
    rw [Nat.mod_eq_of_lt hT]
    exact HM.out.at_.of_blocks (Below.heap_alloc _ _ _ (by omega)) (Below.heap_alloc _ _ _ (by omega)) (Below.heap_alloc _ _ _ (by omega))
  have HB : Hid (Below w.heap.size w (w4.alloc (.cells (madeCells #[.int .i64 0] m) 3))) := HM.out.below.alloc (by omega) _
  have HC : Hid (Cnt (w4.alloc (.cells (madeCells #[.int .i64 0] m) 3)) (w.heap.size + 4) m n T 0 B (fun _ => 0)) := ⟨by rw [← es]; exact Row.made w4 m, fun _ _ => rfl, fun _ => Nat.le_refl _⟩
  clear HM
  go_wp2_with fail
  go_loopw [15] (fun i wr => ∃ (k : Nat) (C : Nat → Nat), k ≤ M ∧ i = .int .i64 k ∧ Hid (At wr (w.heap.size + 2) (w.heap.size + 3) w.heap.size n ((T + k) % 18446744073709551616) B) ∧ Hid (Below w.heap.size w wr) ∧ Hid (Cnt wr (w.heap.size + 4) m n T k B C)) (fun i _ => M - (intOf i).toNat)
  case atStart => exact ⟨0, _, Nat.zero_le _, rfl, HA, HB, HC⟩
  case round =>
    clear HA HB HC es hmk
    obtain ⟨k, C, hk, rfl, HA, HB, HC⟩ := hrel
    by_cases hlt : k < M
    · obtain ⟨c, hc⟩ : ∃ c : Nat, c = (T + k) % 18446744073709551616 := ⟨_, rfl⟩
      obtain ⟨q, hq, hqn⟩ : ∃ q : Nat, q = (T + k) % 18446744073709551616 % n ∧ q < n := ⟨_, rfl, Nat.mod_lt _ hn0⟩
      have HQ : Hid (q = (T + k) % 18446744073709551616 % n) := hq
      rw [← hc] at HA hq
      obtain ⟨z, hz, hzm⟩ : ∃ z : Nat, B q = z ∧ z < m := ⟨(B q).toNat, by have := HF.out q hqn; omega, by have := HF.out q hqn; omega⟩
      have HZ : Hid (B q = z) := hz
      have hpz : P z = q := by have := (HF.out q hqn).2.2; rw [hz] at this; simpa using this
      have HA1 : Hid (At (picked wr (w.heap.size + 2) c) (w.heap.size + 2) (w.heap.size + 3) w.heap.size n ((c + 1) % 18446744073709551616) B) := HA.out.next
      have HB1 : Hid (Below w.heap.size w (picked wr (w.heap.size + 2) c)) := picked_below HB.out (by omega)
      have HC1 : Hid (Cnt (picked wr (w.heap.size + 2) c) (w.heap.size + 4) m n T k B C) := HC.out.of_block (picked_block (by omega))
      have HQ2 : Hid ((c + 1) % 18446744073709551616 = (T + (k + 1)) % 18446744073709551616) := by show _ = _; omega
      clear HB HC hc
      go_wp2_with fail
      refine (ZZpick_any _ _ _ n c B wr HA).mono ?_
      rintro e w6 ⟨rfl, hw6⟩
      rw [← hq, hz]
      rw [← hw6] at HA1 HB1 HC1
      clear hw6 hq HA hz
      have g1 : w6.cell? ⟨b2, o2 + z, none⟩ = some (.int .i64 (q : Int)) := by
        have := (HB1.out.cell hbs2).trans (hp.out z hzm)
        rw [hpz] at this
        exact this
      have g2 : w6.cell? ⟨w.heap.size + 4, z, none⟩ = some (.int .i64 (C z)) := HC1.out.row.cell hzm
      have g3 := HC1.out.row.frozen z
      have hCz : C z ≤ k := HC1.out.le z
      have HC2 : Hid (Cnt (w6.setCell ⟨w.heap.size + 4, z, none⟩ (.int .i64 ((C z : Int) + 1))) (w.heap.size + 4) m n T (k + 1) B (fun j => if j = z then C z + 1 else C j)) := HC1.out.step HF.out HQ.out hqn HZ.out
      have HA2 : Hid (At (w6.setCell ⟨w.heap.size + 4, z, none⟩ (.int .i64 ((C z : Int) + 1))) (w.heap.size + 2) (w.heap.size + 3) w.heap.size n ((T + (k + 1)) % 18446744073709551616) B) := by
        rw [← HQ2.out]
        exact HA1.out.of_blocks (Below.heap_setCell _ _ _ _ (by simp)) (Below.heap_setCell _ _ _ _ (by simp)) (Below.heap_setCell _ _ _ _ (by simp))
      have HB2 : Hid (Below w.heap.size w (w6.setCell ⟨w.heap.size + 4, z, none⟩ (.int .i64 ((C z : Int) + 1)))) := HB1.out.setCell (by simp) _
      clear HA1 HB1 HC1 hpz
      have hd1 : decide ((z : Int) < 0) = false := decide_eq_false (by omega)
      have hd2 : decide ((m : Int) ≤ (z : Int)) = false := decide_eq_false (by omega)
      go_wp2
      go_roundw
      case rel => exact ⟨k + 1, _, by omega, by go_num, HA2, HB2, HC2⟩
      case measure => simp [intOf]; omega
    · obtain rfl : k = M := by omega
      have ht := HA.out.turn
      obtain ⟨S, hS⟩ : ∃ S : Nat, S = (T + k) % 18446744073709551616 := ⟨_, rfl⟩
      rw [← hS] at ht
      have hsum : IntKind.u64.wrap ((T : Int) + (k : Int)) = (S : Int) := by
        rw [IntKind.wrap_u64]
        omega
      have hconv : IntKind.u64.wrap (k : Int) = (k : Int) := by rw [IntKind.wrap_u64]; omega
      have hsub : IntKind.u64.wrap (18446744073709551615 - (k : Int)) = 18446744073709551615 - (k : Int) := by rw [IntKind.wrap_u64]; omega
      clear hS HA
      go_wp2_with fail
      refine (turns_any _ S wr ht).mono ?_
      rintro e w6 ⟨rfl, hw6⟩
      obtain rfl := hw6.symm
      by_cases hwrap : 18446744073709551615 - (k : Int) < (T : Int)
      · go_wp2
        go_ret
        exact ⟨rfl, HB.out⟩
      have HN : Hid (T + k ≤ 18446744073709551616) := by show _ ≤ _; omega
      have hwd : decide (18446744073709551615 - (k : Int) < (T : Int)) = false := decide_eq_false hwrap
      obtain ⟨Q, hQ, hQk⟩ : ∃ Q, Q = k / n ∧ Q ≤ k := ⟨_, rfl, Nat.div_le_self _ _⟩
      have HH : Hid (∀ i, i < n → Q ≤ C (B i).toNat ∧ C (B i).toNat ≤ Q + 1) := by
        intro i hi
        rw [HC.out.hit i hi, hQ]
        exact hits_bounds T n i k hn0 hi HN.out
      clear hQ hwrap
      go_wp2_with fail
      go_loop [17, 18, 19] (fun lo hi i => ∃ l h j : Nat, j ≤ n ∧ lo = .int .i64 l ∧ hi = .int .i64 h ∧ i = .int .i64 j ∧ Q ≤ l ∧ l ≤ k ∧ h ≤ Q + 1) (fun _ _ i => n - (intOf i).toNat)
      case atStart => exact ⟨k, 0, 0, Nat.zero_le _, rfl, rfl, rfl, hQk, Nat.le_refl _, Nat.zero_le _⟩
      case round =>
        obtain ⟨l, h, j, hj, rfl, rfl, rfl, hl1, hl2, hh⟩ := hrel
        by_cases hjn : j < n
        · have g1 : wr.cell? ⟨b, o + j, none⟩ = some (.int .i64 (B j)) := (HB.out.cell hbs).trans (hb.out j hjn)
          obtain ⟨z, hz, hzm⟩ : ∃ z : Nat, B j = z ∧ z < m := ⟨(B j).toNat, by have := HF.out j hjn; omega, by have := HF.out j hjn; omega⟩
          rw [hz] at g1
          have g2 : wr.cell? ⟨w.heap.size + 4, z, none⟩ = some (.int .i64 (C z)) := HC.out.row.cell hzm
          have hcz := HH.out j hjn
          have hck := HC.out.le z
          rw [hz] at hcz
          simp only [Int.toNat_natCast] at hcz
          clear hz
          obtain ⟨c, hc⟩ : ∃ c, c = C z := ⟨_, rfl⟩
          rw [← hc] at g2 hcz hck
          clear hc
          obtain ⟨hc1, hc2⟩ := hcz
          by_cases t1 : c < l
          · by_cases t2 : h < c
            · go_wp2
              go_round
              case rel => exact ⟨c, c, j + 1, by omega, rfl, rfl, by go_num, by omega, by omega, by omega⟩
              case measure => simp [intOf]; omega
            · go_wp2
              go_round
              case rel => exact ⟨c, h, j + 1, by omega, rfl, rfl, by go_num, by omega, by omega, by omega⟩
              case measure => simp [intOf]; omega
          · by_cases t2 : h < c
            · go_wp2
              go_round
              case rel => exact ⟨l, c, j + 1, by omega, rfl, rfl, by go_num, by omega, by omega, by omega⟩
              case measure => simp [intOf]; omega
            · go_wp2
              go_round
              case rel => exact ⟨l, h, j + 1, by omega, rfl, rfl, by go_num, by omega, by omega, by omega⟩
              case measure => simp [intOf]; omega
        · have hlast : decide ((h : Int) - (l : Int) ≤ 1) = true := decide_eq_true (by omega)
          go_wp2
          go_ret
          exact ⟨rfl, HB.out⟩

set_option maxHeartbeats 4000000 in
/-- A list too long, a number out of range, or no backend: nothing is asked. -/
theorem early8 (T : Int) (a a2 : Option Addr) (n cp m d : Nat) (M : Int) (w : World) (hnm : n ≤ maxLen) (hmm : m ≤ maxLen) (h : 65536 < n ∨ 65536 < m ∨ M < 0 ∨ 65536 < M ∨ n = 0) :
    Calls Try.prog 8 #[.int .u64 T, .slice a n cp, .slice a2 m d, .int .i64 M] w fun e w' => e = .returned (.bool true) ∧ Below w.heap.size w w' := by
  go_enter Try.func8, Try.ntmps8
  go_wp2_with fail
  refine (bytes30 T _ _ n cp m d M w hnm hmm).mono ?_
  rintro e w' ⟨⟨r, rfl, hr⟩, hw⟩
  obtain rfl := hw.symm
  cases r
  · clear hr
    go_wp2
    go_ret
    exact ⟨rfl, Below.refl _ _⟩
  obtain ⟨h1, h2⟩ := hr rfl
  clear hr
  by_cases c1 : 65536 < n
  · clear h
    go_wp2
    go_ret
    exact ⟨rfl, Below.refl _ _⟩
  by_cases c2 : 65536 < m
  · clear h
    go_wp2
    go_ret
    exact ⟨rfl, Below.refl _ _⟩
  by_cases c3 : M < 0
  · clear h
    go_wp2
    go_ret
    exact ⟨rfl, Below.refl _ _⟩
  have d3 : decide (M < 0) = false := decide_eq_false c3
  by_cases c4 : 65536 < M
  · clear h
    go_wp2
    go_ret
    exact ⟨rfl, Below.refl _ _⟩
  have d4 : decide (65536 < M) = false := decide_eq_false c4
  obtain rfl : n = 0 := by omega
  clear h
  go_wp2
  go_ret
  exact ⟨rfl, Below.refl _ _⟩

set_option maxHeartbeats 4000000 in
/-- No place: the two lists are no set. -/
theorem empty8 (T : Int) (b o : Nat) (a2 : Option Addr) (n cp d : Nat) (M : Int) (B : Nat → Int) (w : World) (hn0 : 0 < n) (hn2 : n ≤ 65536) (hM0 : ¬ M < 0) (hM1 : ¬ 65536 < M) (hb : Hid (Ints w b o n B)) :
    Calls Try.prog 8 #[.int .u64 T, .slice (some ⟨b, o, none⟩) n cp, .slice a2 0 d, .int .i64 M] w fun e w' => e = .returned (.bool true) ∧ Below w.heap.size w w' := by
  have d3 : decide (M < 0) = false := decide_eq_false hM0
  have d4 : decide (65536 < M) = false := decide_eq_false hM1
  go_enter Try.func8, Try.ntmps8
  go_wp2_with fail
  refine (bytes30 T _ _ n cp 0 d M w (by unfold maxLen; omega) (by unfold maxLen; omega)).mono ?_
  rintro e w' ⟨⟨r, rfl, hr⟩, hw⟩
  obtain rfl := hw.symm
  clear hr
  cases r
  · go_wp2
    go_ret
    exact ⟨rfl, Below.refl _ _⟩
  go_wp2_with fail
  refine (valid_empty b o n cp d a2 B w hn0 hn2 hb.out).mono ?_
  rintro e w' ⟨rfl, hw⟩
  obtain rfl := hw.symm
  go_wp2
  go_ret
  exact ⟨rfl, Below.refl _ _⟩
end Go.Proofs.Qxb6614740a

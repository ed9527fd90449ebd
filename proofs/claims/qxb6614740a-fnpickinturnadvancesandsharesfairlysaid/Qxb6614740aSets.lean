/-
  zzBytes_.., zzCloneInts, zzValidInSet.
-/
import Derived.Test.Qxb6614740aFns
namespace Go.Proofs.Qxb6614740a
open Go.RowKit
set_option linter.unusedVariables false

/-- n numbers lie at block b from off o on. -/
def Ints (w : World) (b o n : Nat) (B : Nat → Int) : Prop := ∀ i, i < n → w.cell? ⟨b, o + i, none⟩ = some (.int .i64 (B i))

def YesNo (p : Prop) (e : Ending) : Prop := ∃ r : Bool, e = .returned (.bool r) ∧ (r = true → p)
theorem YesNo.no {p : Prop} : YesNo p (.returned (.bool false)) := ⟨false, rfl, fun h => by cases h⟩
theorem YesNo.yes {p : Prop} (h : p) : YesNo p (.returned (.bool true)) := ⟨true, rfl, fun _ => h⟩

set_option maxHeartbeats 1000000 in
theorem bytes23 (t : Int) (a b : Option Addr) (n c m d : Nat) (w : World) (hn : n ≤ maxLen) (hm : m ≤ maxLen) :
    Calls Try.prog 23 #[.int .u64 t, .slice a n c, .slice b m d] w fun e w' => YesNo (n ≤ 1048576 ∧ m ≤ 1048576) e ∧ w' = w := by
  unfold maxLen at hn hm
  by_cases h1 : n ≤ 1048576
  · by_cases h2 : m ≤ 1048576
    · by_cases h3 : n + m ≤ 1048576
      · go_enter Try.func23, Try.ntmps23
        go_wp2
        go_ret
        exact ⟨.yes ⟨h1, h2⟩, rfl⟩
      · go_enter Try.func23, Try.ntmps23
        go_wp2
        go_ret
        exact ⟨.no, rfl⟩
    · go_enter Try.func23, Try.ntmps23
      go_wp2
      go_ret
      exact ⟨.no, rfl⟩
  · go_enter Try.func23, Try.ntmps23
    go_wp2
    go_ret
    exact ⟨.no, rfl⟩

set_option maxHeartbeats 1000000 in
theorem bytes30 (t : Int) (a b : Option Addr) (n c m d : Nat) (k : Int) (w : World) (hn : n ≤ maxLen) (hm : m ≤ maxLen) :
    Calls Try.prog 30 #[.int .u64 t, .slice a n c, .slice b m d, .int .i64 k] w fun e w' => YesNo (n ≤ 1048576 ∧ m ≤ 1048576) e ∧ w' = w := by
  unfold maxLen at hn hm
  by_cases h1 : n ≤ 1048576
  · by_cases h2 : m ≤ 1048576
    · by_cases h3 : n + m ≤ 1048576
      · go_enter Try.func30, Try.ntmps30
        go_wp2
        go_ret
        exact ⟨.yes ⟨h1, h2⟩, rfl⟩
      · go_enter Try.func30, Try.ntmps30
        go_wp2
        go_ret
        exact ⟨.no, rfl⟩
    · go_enter Try.func30, Try.ntmps30
      go_wp2
      go_ret
      exact ⟨.no, rfl⟩
  · go_enter Try.func30, Try.ntmps30
    go_wp2
    go_ret
    exact ⟨.no, rfl⟩

/-- Block g is a row of n numbers of the call's own. -/
def Row (w : World) (g n : Nat) (B : Nat → Int) : Prop := ∃ cur : Array Value, w.heap[g]? = some (.cells cur 3 (0, 0)) ∧ cur.size = n ∧ ∀ i, i < n → cur[i]? = some (.int .i64 (B i))

theorem Row.lt {w : World} {g n : Nat} {B : Nat → Int} (h : Row w g n B) : g < w.heap.size := by
  obtain ⟨cur, h1, _⟩ := h
  exact (Array.getElem?_eq_some_iff.1 h1).1
theorem Row.cell {w : World} {g n : Nat} {B : Nat → Int} (h : Row w g n B) {i : Nat} (hi : i < n) : w.cell? ⟨g, i, none⟩ = some (.int .i64 (B i)) := by
  obtain ⟨cur, h1, h2, h3⟩ := h
  simp [World.cell?, h1, h3 i hi]
theorem Row.frozen {w : World} {g n : Nat} {B : Nat → Int} (h : Row w g n B) (i : Nat) : w.frozen? ⟨g, i, none⟩ = false := by
  obtain ⟨cur, h1, _⟩ := h
  simp [World.frozen?, h1]
theorem Row.of_block {w w' : World} {g n : Nat} {B : Nat → Int} (h : Row w g n B) (hb : w'.heap[g]? = w.heap[g]?) : Row w' g n B := by
  obtain ⟨cur, h1, h2⟩ := h
  exact ⟨cur, hb.trans h1, h2⟩
theorem Row.below {w w' : World} {N g n : Nat} {B : Nat → Int} (h : Row w g n B) (hb : Below N w w') (hN : g < N) : Row w' g n B := h.of_block (hb.block g hN)
theorem Row.congr {w : World} {g n : Nat} {B B' : Nat → Int} (h : Row w g n B) (e : ∀ i, i < n → B i = B' i) : Row w g n B' := by
  obtain ⟨cur, h1, h2, h3⟩ := h
  exact ⟨cur, h1, h2, fun i hi => by rw [h3 i hi, e i hi]⟩
theorem Row.set {w : World} {g n : Nat} {B : Nat → Int} (h : Row w g n B) (k : Nat) (x : Int) : Row (w.setCell ⟨g, k, none⟩ (.int .i64 x)) g n (fun i => if i = k then x else B i) := by
  obtain ⟨cur, h1, h2, h3⟩ := h
  refine ⟨cur.setIfInBounds k (.int .i64 x), ?_, by simpa using h2, ?_⟩
  · simp only [World.setCell, Array.getElem?_modify, h1]
    simp
  · intro i hi
    rw [Array.getElem?_setIfInBounds]
    by_cases e : k = i
    · subst e; simp [h2, hi]
    · have e' : ¬ i = k := fun h => e h.symm
      rw [if_neg e, h3 i hi]
      simp [e']
theorem Row.made (w : World) (n : Nat) : Row (w.alloc (.cells (madeCells #[.int .i64 0] n) 3)) w.heap.size n (fun _ => 0) := by
  refine ⟨madeCells #[.int .i64 0] n, ?_, size_madeCells _ _, ?_⟩
  · show (w.heap.push _)[w.heap.size]? = _; simp
  · intro i hi
    have : (madeCells #[.int .i64 0] n).toList[i]? = some (.int .i64 0) := by rw [toList_madeCells_one]; simp [hi]
    simpa using this

theorem info3 : (Try.prog.info? 3).map (fun i => (i.zero, i.size, i.bytes)) = some (some (.int .i64 0), 1, 8) := by kernel_rfl
theorem mk_ints (n : Nat) (hn : n ≤ 1073741824) (w : World) : (Instr.makeSlice 22 (.int .i64 n) (.int .i64 n)).run Try.prog w = .ok (.slice (some ⟨w.heap.size, 0, none⟩) n n) (w.alloc (.cells (madeCells #[.int .i64 0] n) 3)) := by
  obtain ⟨i0, hi, hz0, hz1, hz2⟩ := info_parts info3
  have := run_make (P := Try.prog) w 22 3 i0 (.int .i64 0) Try.underlying22 hi hz0 .i64 .i64 n n (by omega) (Int.le_refl _) (by rw [hz2]; omega) (by omega)
  simp only [hz1, Int.toNat_natCast, Nat.mul_one] at this
  exact this

set_option maxHeartbeats 1000000 in
theorem clone_some (b o len cap : Nat) (B : Nat → Int) (w : World) (hl : len ≤ 1048576) (hbs : b < w.heap.size) (hb : Hid (Ints w b o len B)) :
    Calls Try.prog 25 #[.slice (some ⟨b, o, none⟩) len cap] w fun e w' => e = .returned (.slice (some ⟨w.heap.size, 0, none⟩) len len) ∧ Row w' w.heap.size len B ∧ Below w.heap.size w w' ∧ w'.heap.size = w.heap.size + 1 := by
  have hq := fun w a n c => Lib.run_eql_slice_nil (P := Try.prog) w 22 _ a n c 0 0 Try.underlying22
  have hmk := mk_ints len (by omega)
  go_enter Try.func25, Try.ntmps25
  go_wp2
  go_loopw [4] (fun i wr => ∃ k : Nat, k ≤ len ∧ i = .int .i64 k ∧ Hid (Row wr w.heap.size len (fun i => if i < k then B i else 0)) ∧ Hid (Below w.heap.size w wr) ∧ Hid (wr.heap.size = w.heap.size + 1)) (fun i _ => len - (intOf i).toNat)
  case atStart => exact ⟨0, Nat.zero_le _, rfl, (Row.made w len).congr (fun i _ => by simp), (Below.refl _ _).alloc (Nat.le_refl _) _, show (w.heap.push _).size = _ by simp⟩
  case round =>
    obtain ⟨k, hk, rfl, HR, HB, HS⟩ := hrel
    by_cases hlt : k < len
    · have hc : wr.cell? ⟨b, o + k, none⟩ = some (.int .i64 (B k)) := (HB.out.cell hbs).trans (hb.out k hlt)
      have hd : wr.cell? ⟨w.heap.size, k, none⟩ = some (.int .i64 0) := by
        have := HR.out.cell hlt
        simpa using this
      have hf := HR.out.frozen k
      have HR' : Hid (Row (wr.setCell ⟨w.heap.size, k, none⟩ (.int .i64 (B k))) w.heap.size len (fun i => if i < k + 1 then B i else 0)) := by
        refine (HR.out.set k (B k)).congr fun i _ => ?_
        by_cases e : i = k
        · subst e; simp
        · by_cases e2 : i < k
          · simp [e, e2, show i < k + 1 by omega]
          · simp [e, e2, show ¬ i < k + 1 by omega]
      have HB' : Hid (Below w.heap.size w (wr.setCell ⟨w.heap.size, k, none⟩ (.int .i64 (B k)))) := HB.out.setCell (Nat.le_refl _) _
      have HS' : Hid ((wr.setCell ⟨w.heap.size, k, none⟩ (.int .i64 (B k))).heap.size = w.heap.size + 1) := by
        have := HS.out
        show Array.size (wr.heap.modify _ _) = _
        simpa using this
      clear HR HB HS
      go_wp2
      go_roundw
      case rel => exact ⟨k + 1, by omega, by go_num, HR', HB', HS'⟩
      case measure => simp [intOf]; omega
    · have HR' : Hid (Row wr w.heap.size len B) := HR.out.congr (fun i hi => by rw [if_pos (by omega)])
      go_wp2
      go_ret
      exact ⟨rfl, HR'.out, HB.out, HS.out⟩

/-- What the test on the two lists tells. -/
def Fits (n m : Nat) (B P : Nat → Int) : Prop := ∀ i, i < n → 0 ≤ B i ∧ B i < m ∧ P (B i).toNat = i

/-- place is empty, backends is not: no set. -/
theorem valid_empty (b o n c d : Nat) (a2 : Option Addr) (B : Nat → Int) (w : World) (hn : 0 < n) (hn2 : n ≤ 65536) (hb : Ints w b o n B) :
    Calls Try.prog 24 #[.slice (some ⟨b, o, none⟩) n c, .slice a2 0 d] w fun e w' => e = .returned (.bool false) ∧ w' = w := by
  have h0 : w.cell? ⟨b, o, none⟩ = some (.int .i64 (B 0)) := hb 0 hn
  clear hb
  go_enter Try.func24, Try.ntmps24
  go_wp2
  go_loop [7] (fun i => i = .int .i64 0) (fun i => 0)
  case atStart => rfl
  case round =>
    subst hrel
    by_cases h : B 0 < 0
    · go_wp2
      go_ret
      exact ⟨rfl, rfl⟩
    · have hd : decide (B 0 < 0) = false := decide_eq_false h
      go_wp2
      go_ret
      exact ⟨rfl, rfl⟩

set_option maxHeartbeats 4000000 in
theorem valid_any (b o n c b2 o2 m d : Nat) (B P : Nat → Int) (w : World) (hn2 : n ≤ 65536) (hm2 : m ≤ 65536) (hb : Hid (Ints w b o n B)) (hp : Hid (Ints w b2 o2 m P)) :
    Calls Try.prog 24 #[.slice (some ⟨b, o, none⟩) n c, .slice (some ⟨b2, o2, none⟩) m d] w fun e w' => YesNo (Fits n m B P) e ∧ w' = w := by
  go_enter Try.func24, Try.ntmps24
  go_wp2
  go_loop [7] (fun i => ∃ k : Nat, k ≤ n ∧ i = .int .i64 k ∧ Hid (∀ i, i < k → 0 ≤ B i ∧ B i < m ∧ P (B i).toNat = i)) (fun i => n - (intOf i).toNat)
  case atStart => exact ⟨0, Nat.zero_le _, rfl, fun i hi => by omega⟩
  case round =>
    obtain ⟨k, hk, rfl, HK⟩ := hrel
    by_cases hlt : k < n
    · have hc : w.cell? ⟨b, o + k, none⟩ = some (.int .i64 (B k)) := hb.out k hlt
      by_cases t1 : B k < 0
      · go_wp2
        go_ret
        exact ⟨.no, rfl⟩
      have hd : decide (B k < 0) = false := decide_eq_false t1
      by_cases t2 : (m : Int) ≤ B k
      · go_wp2
        go_ret
        exact ⟨.no, rfl⟩
      have hd2 : decide ((m : Int) ≤ B k) = false := decide_eq_false t2
      obtain ⟨z, hz, hzm⟩ : ∃ z : Nat, B k = z ∧ z < m := ⟨(B k).toNat, by omega, by omega⟩
      have hc2 : w.cell? ⟨b2, o2 + z, none⟩ = some (.int .i64 (P z)) := hp.out z hzm
      have HK' : Hid (P z = k → ∀ i, i < k + 1 → 0 ≤ B i ∧ B i < m ∧ P (B i).toNat = i) := by
        intro t3 i hi
        by_cases e : i = k
        · subst e
          exact ⟨by omega, by omega, by rw [hz]; simpa using t3⟩
        · exact HK.out i (by omega)
      clear HK
      rw [hz] at hc hd hd2
      clear hz t1 t2
      by_cases t4 : 0 < k
      · obtain ⟨j, rfl⟩ : ∃ j, k = j + 1 := ⟨k - 1, by omega⟩
        have hc4 : w.cell? ⟨b, o + j, none⟩ = some (.int .i64 (B j)) := hb.out j (by omega)
        by_cases t5 : (z : Int) ≤ B j
        · go_wp2
          go_ret
          exact ⟨.no, rfl⟩
        by_cases t3 : P z = ((j + 1 : Nat) : Int)
        · have HK2 : Hid (∀ i, i < j + 1 + 1 → 0 ≤ B i ∧ B i < m ∧ P (B i).toNat = i) := HK'.out t3
          clear HK'
          rw [t3] at hc2
          clear t3
          go_wp2
          go_round
          case rel => exact ⟨j + 1 + 1, by omega, by go_num, HK2⟩
          case measure => simp [intOf]; omega
        · have t3' : ¬ P z = (j : Int) + 1 := by omega
          go_wp2
          go_ret
          exact ⟨.no, rfl⟩
      · have hk0 : decide ((0 : Int) < (k : Int)) = false := decide_eq_false (by omega)
        by_cases t3 : P z = k
        · have HK2 : Hid (∀ i, i < k + 1 → 0 ≤ B i ∧ B i < m ∧ P (B i).toNat = i) := HK'.out t3
          clear HK'
          rw [t3] at hc2
          clear t3
          go_wp2
          go_round
          case rel => exact ⟨k + 1, by omega, by go_num, HK2⟩
          case measure => simp [intOf]; omega
        · go_wp2
          go_ret
          exact ⟨.no, rfl⟩
    · have HF : Hid (Fits n m B P) := fun i hi => HK.out i (by omega)
      clear HK
      go_wp2
      go_loop [9] (fun i => ∃ k : Nat, k ≤ m ∧ i = .int .i64 k) (fun i => m - (intOf i).toNat)
      case atStart => exact ⟨0, Nat.zero_le _, rfl⟩
      case round =>
        obtain ⟨j, hj, rfl⟩ := hrel
        by_cases hlt2 : j < m
        · have hc : w.cell? ⟨b2, o2 + j, none⟩ = some (.int .i64 (P j)) := hp.out j hlt2
          by_cases s1 : P j = -1
          · go_wp2
            go_round
            case rel => exact ⟨j + 1, by omega, by go_num⟩
            case measure => simp [intOf]; omega
          by_cases s2 : P j < 0
          · go_wp2
            go_ret
            exact ⟨.no, rfl⟩
          have hd : decide (P j < 0) = false := decide_eq_false s2
          by_cases s3 : (n : Int) ≤ P j
          · go_wp2
            go_ret
            exact ⟨.no, rfl⟩
          have hd2 : decide ((n : Int) ≤ P j) = false := decide_eq_false s3
          obtain ⟨z, hz, hzm⟩ : ∃ z : Nat, P j = z ∧ z < n := ⟨(P j).toNat, by omega, by omega⟩
          have hc2 : w.cell? ⟨b, o + z, none⟩ = some (.int .i64 (B z)) := hb.out z hzm
          have hz1 : ¬ ((z : Int) = -1) := by omega
          rw [hz] at hc hd hd2
          clear hz s1 s2 s3
          by_cases s4 : B z = j
          · go_wp2
            go_round
            case rel => exact ⟨j + 1, by omega, by go_num⟩
            case measure => simp [intOf]; omega
          · go_wp2
            · go_ret
              exact ⟨.no, rfl⟩
            · rename_i h
              exact absurd h.2 (by simp [s4])
        · go_wp2
          go_ret
          exact ⟨.yes HF.out, rfl⟩
end Go.Proofs.Qxb6614740a

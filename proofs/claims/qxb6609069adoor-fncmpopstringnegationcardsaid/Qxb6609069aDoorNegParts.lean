/-
  The parts of FnCmpOpStringNegation: a contract each of zzNegCmp (at ten numbers), zzNegSymbol (at six texts), zzWords (at every text of at most 16 bytes), zzIsWithNot (at two words against one).
-/
import Derived.Test.Qxb6609069aDoorShapeWalks
import Derived.Deep.QuietTactic
import Derived.BigQuiet
namespace Go.Proofs.Qxb6609069aDoor
open Go.RowKit
/-- The operator's text, at a number below ten. -/
theorem str_nat (i : Nat) (hi : i < 10) (s : ByteArray) (w : World) (hc : w.cell? ⟨0, i, none⟩ = some (.string s)) :
    Calls Tryd.prog 5 #[.int .u8 i] w fun e w' => e = .returned (.string s) ∧ w' = w :=
  str_any i s w (by omega) (by omega) (by simpa using hc)
def negOf (i : Nat) : Nat := [1, 0, 5, 4, 3, 2, 7, 6, 9, 8].getD i 8
set_option maxHeartbeats 400000 in
theorem neg_any (i : Nat) (hi : i < 10) (w : World) :
    Calls Tryd.prog 6 #[.int .u8 i] w fun e w' => e = .returned (.int .u8 (negOf i)) ∧ w' = w := by
  match i, hi with
  | 0, _ | 1, _ | 2, _ | 3, _ | 4, _ | 5, _ | 6, _ | 7, _ | 8, _ | 9, _ =>
    go_enter Tryd.func6, Tryd.ntmps6
    go_wp2
    go_ret
    exact ⟨rfl, rfl⟩
theorem conv_bytes (W : World) (b : Nat) (len cap : Nat) (ns : List Int) (hl : ns.length = len) (h : ∀ j v, (ns.map (Value.int .u8))[j]? = some v → W.cell? ((⟨b, 0, none⟩ : Addr).add j) = some v) :
    (convert 32 9 (.slice (some ⟨b, 0, none⟩) len cap)).run Tryd.prog W = .ok (.string (ns.foldl (fun r n => r.push (UInt8.ofNat n.toNat)) ByteArray.empty)) W := by
  rw [run_convert_bytes_string W 32 9 5 _ _ _ Tryd.underlying32 Tryd.underlying5 Tryd.underlying9]
  refine run_bytesToString W _ len cap ns ?_
  have := run_loadCells_list (P := Tryd.prog) (w := W) (⟨b, 0, none⟩ : Addr) (ns.map (Value.int .u8)) h
  rw [List.length_map, hl] at this
  exact this
theorem cell_three (w : World) (c : Array Value) (t : TypeId) (o1 o2 : Obj) (i : Nat) : (((w.alloc (.cells c t)).alloc o1).alloc o2).cell? ⟨w.heap.size, i, none⟩ = c[i]? := by
  rw [World.cell?_alloc_lt _ _ _ (by simp; omega)]
  exact World.cell?_alloc2_first _ _ _ _
set_option maxHeartbeats 400000 in
theorem sym0 (w : World) :
    Calls Tryd.prog 7 #[.string ⟨#[61, 61]⟩] w fun e w' => e = .returned (.string ⟨#[33, 61]⟩) ∧ Below w.heap.size w w' := by
  have hmk : ∀ w : World, (Instr.makeSlice 32 (.int .i64 0) (.int .i64 3)).run Tryd.prog w = .ok (.slice (some ⟨w.heap.size, 0, none⟩) 0 3) (w.alloc (.cells #[.int .u8 0, .int .u8 0, .int .u8 0] 5)) := fun _ => by kernel_rfl
  have e0 : (({ data := #[61, 61] } : ByteArray)[0]).toNat = 61 := rfl
  have e1 : (({ data := #[61, 61] } : ByteArray)[1]).toNat = 61 := rfl
  go_enter Tryd.func7, Tryd.ntmps7
  go_wp2
  refine wp_loop_rounds 2 ?_
  rw [rounds_succ]
  go_wp2
  rw [rounds_succ]
  go_wp2
  rw [conv_bytes _ _ 2 3 [33, 61] rfl]
  · go_wp2
    go_ret
    exact ⟨rfl, ((((Below.refl _ _).alloc (Nat.le_refl _) _).alloc (by simp <;> omega) _).alloc (by simp <;> omega) _)⟩
  · intro j v hj
    match j, hj with
    | 0, hj => simp at hj; subst hj; simp [Addr.add, cell_three]
    | 1, hj => simp at hj; subst hj; simp [Addr.add, cell_three]
set_option maxHeartbeats 400000 in
theorem sym1 (w : World) :
    Calls Tryd.prog 7 #[.string ⟨#[33, 61]⟩] w fun e w' => e = .returned (.string ⟨#[61, 61]⟩) ∧ Below w.heap.size w w' := by
  have hmk : ∀ w : World, (Instr.makeSlice 32 (.int .i64 0) (.int .i64 3)).run Tryd.prog w = .ok (.slice (some ⟨w.heap.size, 0, none⟩) 0 3) (w.alloc (.cells #[.int .u8 0, .int .u8 0, .int .u8 0] 5)) := fun _ => by kernel_rfl
  have e0 : (({ data := #[33, 61] } : ByteArray)[0]).toNat = 33 := rfl
  have e1 : (({ data := #[33, 61] } : ByteArray)[1]).toNat = 61 := rfl
  go_enter Tryd.func7, Tryd.ntmps7
  go_wp2
  refine wp_loop_rounds 2 ?_
  rw [rounds_succ]
  go_wp2
  rw [rounds_succ]
  go_wp2
  rw [conv_bytes _ _ 2 3 [61, 61] rfl]
  · go_wp2
    go_ret
    exact ⟨rfl, ((((Below.refl _ _).alloc (Nat.le_refl _) _).alloc (by simp <;> omega) _).alloc (by simp <;> omega) _)⟩
  · intro j v hj
    match j, hj with
    | 0, hj => simp at hj; subst hj; simp [Addr.add, cell_three]
    | 1, hj => simp at hj; subst hj; simp [Addr.add, cell_three]
set_option maxHeartbeats 400000 in
theorem sym2 (w : World) :
    Calls Tryd.prog 7 #[.string ⟨#[60]⟩] w fun e w' => e = .returned (.string ⟨#[62, 61]⟩) ∧ Below w.heap.size w w' := by
  have hmk : ∀ w : World, (Instr.makeSlice 32 (.int .i64 0) (.int .i64 2)).run Tryd.prog w = .ok (.slice (some ⟨w.heap.size, 0, none⟩) 0 2) (w.alloc (.cells #[.int .u8 0, .int .u8 0] 5)) := fun _ => by kernel_rfl
  have e0 : (({ data := #[60] } : ByteArray)[0]).toNat = 60 := rfl
  go_enter Tryd.func7, Tryd.ntmps7
  go_wp2
  refine wp_loop_rounds 2 ?_
  rw [rounds_succ]
  go_wp2
  rw [rounds_succ]
  go_wp2
  rw [conv_bytes _ _ 2 2 [62, 61] rfl]
  · go_wp2
    go_ret
    exact ⟨rfl, ((((Below.refl _ _).alloc (Nat.le_refl _) _).alloc (by simp <;> omega) _).alloc (by simp <;> omega) _)⟩
  · intro j v hj
    match j, hj with
    | 0, hj => simp at hj; subst hj; simp [Addr.add, cell_three]
    | 1, hj => simp at hj; subst hj; simp [Addr.add, cell_three]
set_option maxHeartbeats 400000 in
theorem sym3 (w : World) :
    Calls Tryd.prog 7 #[.string ⟨#[60, 61]⟩] w fun e w' => e = .returned (.string ⟨#[62]⟩) ∧ Below w.heap.size w w' := by
  have hmk : ∀ w : World, (Instr.makeSlice 32 (.int .i64 0) (.int .i64 3)).run Tryd.prog w = .ok (.slice (some ⟨w.heap.size, 0, none⟩) 0 3) (w.alloc (.cells #[.int .u8 0, .int .u8 0, .int .u8 0] 5)) := fun _ => by kernel_rfl
  have e0 : (({ data := #[60, 61] } : ByteArray)[0]).toNat = 60 := rfl
  have e1 : (({ data := #[60, 61] } : ByteArray)[1]).toNat = 61 := rfl
  go_enter Tryd.func7, Tryd.ntmps7
  go_wp2
  refine wp_loop_rounds 2 ?_
  rw [rounds_succ]
  go_wp2
  rw [rounds_succ]
  go_wp2
  rw [conv_bytes _ _ 1 3 [62] rfl]
  · go_wp2
    go_ret
    exact ⟨rfl, (((Below.refl _ _).alloc (Nat.le_refl _) _).alloc (by simp <;> omega) _)⟩
  · intro j v hj
    match j, hj with
    | 0, hj => simp at hj; subst hj; simp [Addr.add]
set_option maxHeartbeats 400000 in
theorem sym4 (w : World) :
    Calls Tryd.prog 7 #[.string ⟨#[62]⟩] w fun e w' => e = .returned (.string ⟨#[60, 61]⟩) ∧ Below w.heap.size w w' := by
  have hmk : ∀ w : World, (Instr.makeSlice 32 (.int .i64 0) (.int .i64 2)).run Tryd.prog w = .ok (.slice (some ⟨w.heap.size, 0, none⟩) 0 2) (w.alloc (.cells #[.int .u8 0, .int .u8 0] 5)) := fun _ => by kernel_rfl
  have e0 : (({ data := #[62] } : ByteArray)[0]).toNat = 62 := rfl
  go_enter Tryd.func7, Tryd.ntmps7
  go_wp2
  refine wp_loop_rounds 2 ?_
  rw [rounds_succ]
  go_wp2
  rw [rounds_succ]
  go_wp2
  rw [conv_bytes _ _ 2 2 [60, 61] rfl]
  · go_wp2
    go_ret
    exact ⟨rfl, ((((Below.refl _ _).alloc (Nat.le_refl _) _).alloc (by simp <;> omega) _).alloc (by simp <;> omega) _)⟩
  · intro j v hj
    match j, hj with
    | 0, hj => simp at hj; subst hj; simp [Addr.add, cell_three]
    | 1, hj => simp at hj; subst hj; simp [Addr.add, cell_three]
set_option maxHeartbeats 400000 in
theorem sym5 (w : World) :
    Calls Tryd.prog 7 #[.string ⟨#[62, 61]⟩] w fun e w' => e = .returned (.string ⟨#[60]⟩) ∧ Below w.heap.size w w' := by
  have hmk : ∀ w : World, (Instr.makeSlice 32 (.int .i64 0) (.int .i64 3)).run Tryd.prog w = .ok (.slice (some ⟨w.heap.size, 0, none⟩) 0 3) (w.alloc (.cells #[.int .u8 0, .int .u8 0, .int .u8 0] 5)) := fun _ => by kernel_rfl
  have e0 : (({ data := #[62, 61] } : ByteArray)[0]).toNat = 62 := rfl
  have e1 : (({ data := #[62, 61] } : ByteArray)[1]).toNat = 61 := rfl
  go_enter Tryd.func7, Tryd.ntmps7
  go_wp2
  refine wp_loop_rounds 2 ?_
  rw [rounds_succ]
  go_wp2
  rw [rounds_succ]
  go_wp2
  rw [conv_bytes _ _ 1 3 [60] rfl]
  · go_wp2
    go_ret
    exact ⟨rfl, (((Below.refl _ _).alloc (Nat.le_refl _) _).alloc (by simp <;> omega) _)⟩
  · intro j v hj
    match j, hj with
    | 0, hj => simp at hj; subst hj; simp [Addr.add]
theorem Tryd.info9 : (Tryd.prog.info? 9).map (fun i => (i.zero, i.size, i.bytes)) = some (some (.string ⟨#[]⟩), 1, 16) := by kernel_rfl

/-- The scanner's state behind k bytes: where the open word began (or -1), and the words that are shut. -/
def scanW (s : ByteArray) : Nat → Int × List ByteArray
  | 0 => (-1, [])
  | k + 1 => if (s.data.toList.getD k 0).toNat = 32 then (if 0 ≤ (scanW s k).1 then (-1, (scanW s k).2 ++ [s.extract (scanW s k).1.toNat k]) else scanW s k)
      else (if (scanW s k).1 < 0 then ((k : Int), (scanW s k).2) else scanW s k)
/-- The words of a text. -/
def wordsW (s : ByteArray) : List ByteArray := if 0 ≤ (scanW s s.size).1 then (scanW s s.size).2 ++ [s.extract (scanW s s.size).1.toNat s.size] else (scanW s s.size).2

theorem byte_at (s : ByteArray) (k : Nat) (h : k < s.size) : s.data.toList.getD k 0 = s[k] := by
  rw [List.getD_eq_getElem?_getD, List.getElem?_eq_getElem (by simpa using h)]; rfl

theorem scan_shut {s : ByteArray} {k m : Nat} {l : List ByteArray} (h : k < s.size) (e : scanW s k = ((m : Int), l)) (hc : ((s[k].toNat : Int) == 32) = true) : scanW s (k + 1) = (-1, l ++ [s.extract m k]) := by
  have : s[k].toNat = 32 := by simp at hc; omega
  rw [scanW, byte_at s k h, if_pos this, e, if_pos (by simp)]; simp
theorem scan_skip {s : ByteArray} {k : Nat} {l : List ByteArray} (h : k < s.size) (e : scanW s k = (-1, l)) (hc : ((s[k].toNat : Int) == 32) = true) : scanW s (k + 1) = (-1, l) := by
  have : s[k].toNat = 32 := by simp at hc; omega
  rw [scanW, byte_at s k h, if_pos this, e, if_neg (by simp)]
theorem scan_open {s : ByteArray} {k : Nat} {l : List ByteArray} (h : k < s.size) (e : scanW s k = (-1, l)) (hc : ((s[k].toNat : Int) == 32) = false) : scanW s (k + 1) = ((k : Int), l) := by
  have : ¬ s[k].toNat = 32 := by simp at hc; omega
  rw [scanW, byte_at s k h, if_neg this, e, if_pos (by simp)]
theorem scan_on {s : ByteArray} {k m : Nat} {l : List ByteArray} (h : k < s.size) (e : scanW s k = ((m : Int), l)) (hc : ((s[k].toNat : Int) == 32) = false) : scanW s (k + 1) = ((m : Int), l) := by
  have : ¬ s[k].toNat = 32 := by simp at hc; omega
  rw [scanW, byte_at s k h, if_neg this, e, if_neg (by simp)]

theorem own_block {w : World} {base e size : Nat} {v : Value} {n : Nat} {xs : List Value} (h : w.ownsRow base e size v n xs) : ∀ k, v.ownBlock = some k → base ≤ k := by
  intro k hk
  rcases h.2 with ⟨rfl, _⟩ | ⟨g, cap, cur, rfl, hb, _⟩
  · simp [Value.ownBlock] at hk
  · simp [Value.ownBlock] at hk; omega

set_option maxHeartbeats 1000000 in
theorem words_any (s : ByteArray) (w : World) (hs : s.size ≤ 16) :
    Calls Tryd.prog 8 #[.string s] w fun e w' => ∃ v, e = .returned v ∧ w'.ownsRow w.heap.size 9 1 v (wordsW s).length ((wordsW s).map Value.string) ∧ Below w.heap.size w w' := by
  obtain ⟨i0, hi, hz0, hz1, hz2⟩ := info_parts Tryd.info9
  go_enter Tryd.func8, Tryd.ntmps8
  go_wp2
  go_loopw [3, 4, 5] (fun v t i wr => ∃ (k : Nat) (st : Int) (l : List ByteArray), k ≤ s.size ∧ i = .int .i64 k ∧ t = .int .i64 st ∧ Hid (scanW s k = (st, l)) ∧ -1 ≤ st ∧ st < k ∧ l.length ≤ k ∧
      wr.ownsRow w.heap.size 9 1 v l.length (l.map Value.string) ∧ Below w.heap.size w wr) (fun _ _ i _ => s.size - (intOf i).toNat)
  case atStart => exact ⟨0, -1, [], Nat.zero_le _, rfl, rfl, rfl, by omega, by omega, by simp, World.ownsRow_nil _ _ _ _, Below.refl _ _⟩
  case round =>
    obtain ⟨k, st, l, hk, rfl, rfl, HS, hs1, hs2, hl, hown, hb⟩ := hrel
    have hbs := hb.size
    by_cases hlt : k < s.size
    · cases hc : ((s[k].toNat : Int) == 32)
      · by_cases hst : 0 ≤ st
        · obtain ⟨m, rfl⟩ : ∃ m : Nat, st = m := ⟨st.toNat, by omega⟩
          have HN : Hid (scanW s (k + 1) = ((m : Int), l)) := scan_on hlt HS.out hc
          go_wp2
          go_roundw
          case rel => exact ⟨k + 1, m, l, by omega, by go_num, rfl, HN, by omega, by omega, by omega, hown, hb⟩
          case measure => simp [intOf]; omega
        · obtain rfl : st = -1 := by omega
          have HN : Hid (scanW s (k + 1) = ((k : Int), l)) := scan_open hlt HS.out hc
          go_wp2
          go_roundw
          case rel => exact ⟨k + 1, k, l, by omega, by go_num, rfl, HN, by omega, by omega, by omega, hown, hb⟩
          case measure => simp [intOf]; omega
      · by_cases hst : 0 ≤ st
        · obtain ⟨m, rfl⟩ : ∃ m : Nat, st = m := ⟨st.toNat, by omega⟩
          have HN : Hid (scanW s (k + 1) = (-1, l ++ [s.extract m k])) := scan_shut hlt HS.out hc
          go_wp2_with (at_builtin; refine wpList_append_own _ rfl _ _ 27 rfl w.heap.size 9 i0 (.string ⟨#[]⟩) 1 16 Tryd.underlying27 hi hz0 hz1 hz2 rfl (by decide) _ _ _ rfl (hown.alloc _) ⟨wr.heap.size, 0, none⟩ 1 1 [.string (s.extract m k)] rfl rfl ?c1 ?c2 ?c3 ?c4 ?c5 ?_)
          case c1 => exact cell_one_new _ _ _
          case c2 => intro u hu; simp at hu; subst hu; rfl
          case c3 => unfold maxLen; omega
          case c4 => omega
          case c5 => simp; omega
          intro v' w1 hown' hgrow _
          have hb' : Below w.heap.size w w1 := (hb.alloc hbs _).grown hgrow (by simp; omega) (own_block hown)
          clear hgrow hown hb
          go_wp2
          go_roundw
          case rel => exact ⟨k + 1, -1, l ++ [s.extract m k], by omega, by go_num, rfl, HN, by omega, by omega, by simp; omega, by simpa using hown', hb'⟩
          case measure => simp [intOf]; omega
        · obtain rfl : st = -1 := by omega
          have HN : Hid (scanW s (k + 1) = (-1, l)) := scan_skip hlt HS.out hc
          go_wp2
          go_roundw
          case rel => exact ⟨k + 1, -1, l, by omega, by go_num, rfl, HN, by omega, by omega, by omega, hown, hb⟩
          case measure => simp [intOf]; omega
    · by_cases hst : 0 ≤ st
      · obtain ⟨m, rfl⟩ : ∃ m : Nat, st = m := ⟨st.toNat, by omega⟩
        have HW : Hid (wordsW s = l ++ [s.extract m s.size]) := by
          have : k = s.size := by omega
          subst this
          show wordsW s = _
          rw [wordsW, HS.out, if_pos (by simp)]; simp
        go_wp2_with (at_builtin; refine wpList_append_own _ rfl _ _ 27 rfl w.heap.size 9 i0 (.string ⟨#[]⟩) 1 16 Tryd.underlying27 hi hz0 hz1 hz2 rfl (by decide) _ _ _ rfl (hown.alloc _) ⟨wr.heap.size, 0, none⟩ 1 1 [.string (s.extract m s.size)] rfl rfl ?d1 ?d2 ?d3 ?d4 ?d5 ?_)
        case d1 => exact cell_one_new _ _ _
        case d2 => intro u hu; simp at hu; subst hu; rfl
        case d3 => unfold maxLen; omega
        case d4 => omega
        case d5 => simp; omega
        intro v' w1 hown' hgrow _
        have hb' : Below w.heap.size w w1 := (hb.alloc hbs _).grown hgrow (by simp; omega) (own_block hown)
        clear hgrow hown hb
        go_wp2
        go_ret
        exact ⟨_, rfl, by rw [HW.out]; simpa using hown', hb'⟩
      · obtain rfl : st = -1 := by omega
        have HW : Hid (wordsW s = l) := by
          have : k = s.size := by omega
          subst this
          show wordsW s = _
          rw [wordsW, HS.out, if_neg (by simp)]
        go_wp2
        go_ret
        exact ⟨_, rfl, by rw [HW.out]; exact hown, hb⟩
set_option maxHeartbeats 1000000 in
theorem iswn_head (g h c1 c2 : Nat) (x y : ByteArray) (w : World) (hx : (x.toList == [110, 111, 116]) = true) (hy : (y.toList == [110, 111, 116]) = false)
    (h0 : w.cell? ⟨g, 0, none⟩ = some (.string x)) (h1 : w.cell? ⟨g, 1, none⟩ = some (.string y)) (h2 : w.cell? ⟨h, 0, none⟩ = some (.string y)) :
    Calls Tryd.prog 9 #[.slice (some ⟨g, 0, none⟩) 2 c1, .slice (some ⟨h, 0, none⟩) 1 c2] w fun e w' => e = .returned (.bool true) ∧ ∃ n, w' = w.drewN n := by
  go_enter Tryd.func9, Tryd.ntmps9
  go_wp2
  refine wp_loop_rounds 3 ?_
  rw [rounds_succ]
  go_wp2
  rw [rounds_succ]
  go_wp2
  rw [rounds_succ]
  go_wp2
  refine wp_loop_rounds 3 ?_
  rw [rounds_succ]
  go_wp2
  rw [rounds_succ]
  go_wp2_with fail
  go_quiet (fail)
  go_wp2
  rw [rounds_succ]
  go_wp2
  go_ret
  exact ⟨rfl, _, rfl⟩
set_option maxHeartbeats 1000000 in
theorem iswn_tail (g h c1 c2 : Nat) (x y : ByteArray) (w : World) (hx : (x.toList == [110, 111, 116]) = true) (hy : (y.toList == [110, 111, 116]) = false)
    (h0 : w.cell? ⟨g, 0, none⟩ = some (.string y)) (h1 : w.cell? ⟨g, 1, none⟩ = some (.string x)) (h2 : w.cell? ⟨h, 0, none⟩ = some (.string y)) :
    Calls Tryd.prog 9 #[.slice (some ⟨g, 0, none⟩) 2 c1, .slice (some ⟨h, 0, none⟩) 1 c2] w fun e w' => e = .returned (.bool true) ∧ ∃ n, w' = w.drewN n := by
  go_enter Tryd.func9, Tryd.ntmps9
  go_wp2
  refine wp_loop_rounds 3 ?_
  rw [rounds_succ]
  go_wp2
  rw [rounds_succ]
  go_wp2
  rw [rounds_succ]
  go_wp2
  refine wp_loop_rounds 3 ?_
  rw [rounds_succ]
  go_wp2_with fail
  go_quiet (fail)
  go_wp2
  rw [rounds_succ]
  go_wp2
  rw [rounds_succ]
  go_wp2
  go_ret
  exact ⟨rfl, _, rfl⟩
end Go.Proofs.Qxb6609069aDoor

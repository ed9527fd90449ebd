/-
  cursor.held, cursor.read.
-/
import Derived.Test.Qxb6613648aFmtRApp
import Derived.BigRegion
namespace Go.Proofs.Qxb6613648aFmt
open Go.RowKit
set_option linter.unusedVariables false
set_option linter.unusedSimpArgs false
attribute [local go_sem] setCell_drewN alloc_drewN

set_option maxRecDepth 100000 in
set_option maxHeartbeats 1000000 in
theorem held_none (wb eb i f g : Nat) (w : World) (h33 : w.cell? ⟨wb, 33, none⟩ = some (.int .i64 f)) (h34 : w.cell? ⟨wb, 34, none⟩ = some (.int .i64 g)) (hi : f ≤ i) (hg : g ≤ i - f) (hb : i ≤ 65536) :
    Calls Tryf.prog 61 #[.pointer (some ⟨wb, 31, none⟩), .pointer (some ⟨eb, 0, none⟩), .int .i64 i] w fun e w' => e = .returned (.slice none 0 0) ∧ ∃ m, w' = w.drewN m := by
  obtain ⟨k, hk⟩ : ∃ k : Nat, (i : Int) - f = k := ⟨i - f, by omega⟩
  have hgk : ¬ (k : Int) < g := by omega
  have hkb : k ≤ 65536 := by omega
  go_enter Tryf.func61, Tryf.ntmps61
  go_upto_region 2 with fail
  go_quiet (fail)
  go_wp2
  go_ret
  exact ⟨rfl, _, rfl⟩

set_option maxRecDepth 100000 in
set_option maxHeartbeats 1000000 in
theorem held_some (wb eb i f g Q l c v k z : Nat) (at' : Int) (w : World) (h31 : w.cell? ⟨wb, 31, none⟩ = some (.slice (some ⟨Q, 0, none⟩) l c)) (h32 : w.cell? ⟨wb, 32, none⟩ = some (.int .i64 at')) (h33 : w.cell? ⟨wb, 33, none⟩ = some (.int .i64 f)) (h34 : w.cell? ⟨wb, 34, none⟩ = some (.int .i64 g))
    (e0 : w.cell? ⟨eb, 0, none⟩ = some (.int .i64 at')) (e2 : w.cell? ⟨eb, 2, none⟩ = some (.int .i64 v)) (hi : i = f + k) (hg : k < g) (hb : i ≤ 65536) (hv : v ≤ 16) (hv0 : 0 < v) (hz : z = k * v) (hl : g * v = l) (hlc : l ≤ c) :
    Calls Tryf.prog 61 #[.pointer (some ⟨wb, 31, none⟩), .pointer (some ⟨eb, 0, none⟩), .int .i64 i] w fun e w' => e = .returned (.slice (some ⟨Q, z, none⟩) v (c - z)) ∧ ∃ m, w' = w.drewN m := by
  have hk : IntKind.i64.wrap ((i : Int) - f) = k := by rw [IntKind.wrap_i64]; omega
  have hkb : k ≤ 65536 := by omega
  have hzl : z + v ≤ l := by
    have := Nat.mul_le_mul_right v (Nat.succ_le_of_lt hg)
    rw [Nat.succ_mul] at this
    omega
  have hz' : (k : Int) * v = z := by rw [hz]; simp
  have hz2 : ((k : Int) + 1) * v = z + v := by rw [Int.add_mul, hz']; omega
  have hzb : z ≤ 1048576 := by
    have := Nat.mul_le_mul hkb hv
    omega
  have hgk : (k : Int) < g := by omega
  clear hz hl hi
  go_enter Tryf.func61, Tryf.ntmps61
  go_upto_region 2 with fail
  go_quiet (fail)
  go_upto_region 3 with fail
  go_quiet (fail)
  go_wp2
  go_ret
  refine ⟨?_, _, World.drewN_drewN _ _ _⟩
  show Ending.returned (.slice (some ⟨Q, z, none⟩) (z + v - z) (c - z)) = _
  rw [Nat.add_sub_cancel_left]
theorem ahead_readAt (a : Addr) (w : World) : (nilAhead 362 90 (.pointer (some a)) "ReadAt").run Tryf.prog w = .ok (some false) w := by kernel_rfl

theorem int_div_nat {v : Nat} : ((4096 : Int) / (v : Int)) = ((4096 / v : Nat) : Int) := by
  rw [Int.natCast_ediv]; rfl

theorem chunk {v cn i : Nat} (hv0 : 0 < v) (hv : v ≤ 16) (hb : i < cn) : ∃ q g S : Nat, q = 4096 / v ∧ g = min q (cn - i) ∧ S = g * v ∧ (if (4096 : Int) / (v : Int) < 1 then (1 : Int) else 4096 / (v : Int)) = q ∧ (if (cn : Int) - i < q then (cn : Int) - i else q) = g ∧ wrap64 ((g : Int) * v) = S ∧ 0 < g ∧ v ≤ S ∧ S ≤ 4096 ∧ (S : Int) / v = g := by
  have hq : 256 ≤ 4096 / v := (Nat.le_div_iff_mul_le hv0).2 (by omega)
  have h4 : 4096 / v * v ≤ 4096 := Nat.div_mul_le_self _ _
  have hg : min (4096 / v) (cn - i) * v ≤ 4096 / v * v := Nat.mul_le_mul_right _ (Nat.min_le_left _ _)
  have hg1 : 1 * v ≤ min (4096 / v) (cn - i) * v := Nat.mul_le_mul_right _ (by omega)
  refine ⟨_, _, _, rfl, rfl, rfl, ?_, ?_, ?_, by omega, by omega, by omega, ?_⟩
  · rw [int_div_nat]
    split <;> omega
  · split <;> omega
  · rw [show ((min (4096 / v) (cn - i) : Nat) : Int) * (v : Int) = ((min (4096 / v) (cn - i) * v : Nat) : Int) by simp]
    unfold wrap64
    omega
  · rw [← Int.natCast_ediv, Nat.mul_div_cancel _ hv0]


/-- A chunk is read into Q: what the cursor's block says then; all else is as it was. -/
structure Rd (w w' : World) (wb Q c e0 i g S : Nat) (Z : Nat → Int) : Prop where
  c31 : w'.cell? ⟨wb, 31, none⟩ = some (.slice (some ⟨Q, 0, none⟩) S c)
  c32 : w'.cell? ⟨wb, 32, none⟩ = some (.int .i64 e0)
  c33 : w'.cell? ⟨wb, 33, none⟩ = some (.int .i64 i)
  c34 : w'.cell? ⟨wb, 34, none⟩ = some (.int .i64 g)
  row : Row w' Q c Z
  rest : ∀ j, j < 31 → w'.cell? ⟨wb, j, none⟩ = w.cell? ⟨wb, j, none⟩
  blk : ∀ cur t n, w.heap[wb]? = some (.cells cur t (0, 0)) → cur.size = n → ∃ cur', w'.heap[wb]? = some (.cells cur' t (0, 0)) ∧ cur'.size = n
  same : ∀ k, k < w.heap.size → k ≠ wb → k ≠ Q → w'.heap[k]? = w.heap[k]?
  size : w.heap.size ≤ w'.heap.size
  below : ∀ M, M ≤ Q → M ≤ wb → M ≤ w.heap.size → Below M w w'

theorem blk_set {w : World} {b : Nat} {t : TypeId} {n : Nat} (k i : Nat) (v : Value) (h : ∃ cur, w.heap[b]? = some (.cells cur t (0, 0)) ∧ cur.size = n) : ∃ cur, (w.setCell ⟨k, i, none⟩ v).heap[b]? = some (.cells cur t (0, 0)) ∧ cur.size = n := by
  obtain ⟨cur, h1, h2⟩ := h
  by_cases e : b = k
  · subst e
    refine ⟨cur.setIfInBounds i v, ?_, by simpa using h2⟩
    simp only [World.setCell, Array.getElem?_modify, h1]
    simp
  · exact ⟨cur, (Below.heap_setCell _ _ _ _ e).trans h1, h2⟩

theorem cell_far_off {w : World} {b i j : Nat} {v : Value} (h : i ≠ j) : (w.setCell ⟨b, i, none⟩ v).cell? ⟨b, j, none⟩ = w.cell? ⟨b, j, none⟩ := by
  simp only [World.cell?, World.setCell, Array.getElem?_modify]
  cases hw : w.heap[b]? with
  | none => simp
  | some o =>
    cases o <;> simp [Array.getElem?_setIfInBounds, h]

theorem cell_here {w : World} {b i n : Nat} {t : TypeId} {v : Value} (h : ∃ cur, w.heap[b]? = some (.cells cur t (0, 0)) ∧ cur.size = n) (hi : i < n) : (w.setCell ⟨b, i, none⟩ v).cell? ⟨b, i, none⟩ = some v := by
  obtain ⟨cur, h1, h2⟩ := h
  simp only [World.cell?, World.setCell, Array.getElem?_modify, h1]
  simp [Array.getElem?_setIfInBounds, h2, hi]

set_option maxRecDepth 1000000 in
set_option maxHeartbeats 2000000 in
theorem rd_4 (wb rb bk P len e0 cn v i g S y Q bl c : Nat) (Z B : Nat → Int) (post : Ending → World → Prop) (w : World) (u2 u4 u5 u7 u8 u9 u11 u12 u13 u14 u15 u16 u17 u18 u19 u20 u21 u22 u23 u24 u25 u26 u27 u28 u29 u30 u31 u32 u33 u34 u35 u36 u37 u38 u39 u40 u41 u42 u43 u44 u45 u46 u47 u48 u49 u50 u51 u52 u53 u54 u55 u56 u57 u58 u59 u60 u61 u62 u63 u64 u65 u66 u67 u68 u69 u70 u71 u72 u73 u74 u75 u76 u77 u78 u79 u80 u81 u82 u83 u84 u85 u86 u87 u88 u89 u90 u91 u92 u93 u94 u95 u96 u97 u98 u99 u100 u101 u102 u103 u104 u105 u106 u107 u108 u109 u110 u111 u112 : Value)
    (h31 : w.cell? ⟨wb, 31, none⟩ = some (.slice (some ⟨Q, 0, none⟩) bl c)) (hW : ∃ cur, w.heap[wb]? = some (.cells cur 138 (0, 0)) ∧ cur.size = 35) (hbk : w.heap[bk]? = some (.cells #[.int .i64 e0, .int .i64 cn, .int .i64 v] 153 (0, 0)))
    (hrb : w.heap[rb]? = some (.cells #[.slice (some ⟨P, 0, none⟩) len len, .int .i64 0, .int .i64 (-1)] 141 (0, 0))) (hP : Row w P len B) (hQ : Row w Q c Z)
    (hb : i < cn) (hcn : cn ≤ 65536) (hv0 : 0 < v) (hv : v ≤ 16) (hlen : len ≤ 1048576) (hg0 : 0 < g) (hgb : g ≤ 65536) (hS0 : v ≤ S) (hS1 : S ≤ 4096) (hdiv : (S : Int) / v = g) (hSc : S ≤ c) (hc : c ≤ 1048576) (hy : y = i * v) (hat : e0 + y + S ≤ len)
    (hpost : ∀ w', Rd w w' wb Q c e0 i g S (fun j => if j < S then B (e0 + y + j) else Z j) → post (.returned (.tuple #[.slice (some ⟨Q, 0, none⟩) v c, .nilIface])) w') :
    Code.wp Tryf.prog ((Tryf.f62.body.bind (fromReg 4)).getD .skip) (bodyPost Tryf.prog Tryf.f62 post) ⟨#[.pointer (some ⟨wb, 31, none⟩), .iface 90 (.pointer (some ⟨rb, 0, none⟩)), u2, .int .i64 i, u4, u5, .pointer (some ⟨bk, 0, none⟩), u7, u8, u9, .int .i64 S, u11, u12, u13, u14, u15, u16, u17, u18, u19, u20, u21, u22, u23, u24, u25, u26, u27, u28, u29, u30, u31, u32, u33, u34, u35, u36, u37, u38, u39, u40, u41, u42, u43, u44, u45, u46, u47, u48, u49, u50, u51, u52, u53, u54, u55, u56, u57, u58, u59, u60, u61, u62, u63, u64, u65, u66, u67, u68, u69, u70, u71, u72, u73, u74, u75, u76, u77, u78, u79, u80, u81, u82, u83, u84, u85, u86, u87, u88, u89, u90, u91, u92, u93, u94, u95, u96, u97, u98, u99, u100, u101, u102, u103, u104, u105, u106, u107, u108, u109, u110, u111, u112], []⟩ w := by
  obtain ⟨cur, hcur, hcs⟩ := hW
  have hvz : ¬ ((v : Int) = 0) := by omega
  have hvz' : ((v : Int) == 0) = false := by simp; omega
  have hgz : ((g : Int) == 0) = false := by simp; omega
  have hy' : (i : Int) * v = y := by rw [hy]; simp
  have hyb : y ≤ 1048576 := by omega
  have hm := method_readAt
  have hna := ahead_readAt
  have hQw : Q ≠ wb := by
    obtain ⟨cq, q1, _⟩ := hQ
    rintro rfl
    rw [q1] at hcur
    simp at hcur
  have hQb : Q ≠ bk := by
    obtain ⟨cq, q1, _⟩ := hQ
    rintro rfl
    rw [q1] at hbk
    simp at hbk
  have hbw : bk ≠ wb := by
    rintro rfl
    rw [hbk] at hcur
    simp at hcur
  have HRB : Hid (w.heap[rb]? = some (.cells #[.slice (some ⟨P, 0, none⟩) len len, .int .i64 0, .int .i64 (-1)] 141 (0, 0)) ∧ Row w P len B ∧ Row w Q c Z ∧ w.heap[wb]? = some (.cells cur 138 (0, 0)) ∧ w.heap[bk]? = some (.cells #[.int .i64 e0, .int .i64 cn, .int .i64 v] 153 (0, 0))) := ⟨hrb, hP, hQ, hcur, hbk⟩
  have HPo : Hid (∀ w', Rd w w' wb Q c e0 i g S (fun j => if j < S then B (e0 + y + j) else Z j) → post (.returned (.tuple #[.slice (some ⟨Q, 0, none⟩) v c, .nilIface])) w') := hpost
  have b0 : w.cell? ⟨bk, 0, none⟩ = some (.int .i64 e0) := by simp [World.cell?, hbk]
  have b2 : w.cell? ⟨bk, 2, none⟩ = some (.int .i64 v) := by simp [World.cell?, hbk]
  clear hrb hP hQ hcur hbk hpost hy
  conv => arg 2; whnf
  go_upto_region 5 with fail
  go_cut [12, 13] (fun n e wx => n = .int .i64 S ∧ e = .nilIface ∧ Hid (Row wx Q c (fun j => if j < S then B (e0 + y + j) else Z j) ∧ Just w wx Q))
  case first =>
    go_region_with (go_at_call 92; rw [show (e0 : Int) + (y : Int) = ((e0 + y : Nat) : Int) by simp]; refine (readAt_any rb P len Q c S c (e0 + y) B Z _ ?_ ?_ ?_ ?_ ?_ ?_ hlen).mono ?_; exact HRB.out.1; exact HRB.out.2.1; exact HRB.out.2.2.1; omega; omega; omega; rintro e w3 ⟨rfl, h3⟩)
    all_goals
      have H3 : Hid (Row w3 Q c (fun j => if j < S then B (e0 + y + j) else Z j) ∧ Just w w3 Q) := ⟨h3.1, ⟨fun M h1 => ((Below.refl M w).drew).trans (h3.2.below M h1), fun k hk => h3.2.same k hk, h3.2.size⟩⟩
      clear h3
      simp only [Act.put, List.setIfInBounds_toArray, List.set_cons_zero, List.set_cons_succ, List.getElem_toArray, List.getElem_cons_zero, List.getElem_cons_succ]
      go_wp2
      go_meet
      exact ⟨rfl, rfl, H3⟩
  case rest =>
    obtain ⟨w1, hw1⟩ : ∃ w1, w1 = wc := ⟨_, rfl⟩
    subst hw1
    obtain ⟨rfl, rfl, H3⟩ := hcut
    have hcw : w1.heap[wb]? = some (.cells cur 138 (0, 0)) := (H3.out.2.same wb (Ne.symm hQw)).trans HRB.out.2.2.2.1
    have HCW : Hid (w1.heap[wb]? = some (.cells cur 138 (0, 0))) := hcw
    have eW : ∀ j, w1.cell? ⟨wb, j, none⟩ = cur[j]? := fun j => by simp [World.cell?, hcw]
    have e31 : cur[31]? = some (.slice (some ⟨Q, 0, none⟩) bl c) := by simpa [World.cell?, HRB.out.2.2.2.1] using h31
    have g1 : w1.cell? ⟨wb, 31, none⟩ = some (.slice (some ⟨Q, 0, none⟩) bl c) := (eW 31).trans e31
    obtain ⟨x2, h32⟩ : ∃ x, cur[32]? = some x := ⟨_, Array.getElem?_eq_getElem (by omega)⟩
    obtain ⟨x3, h33⟩ : ∃ x, cur[33]? = some x := ⟨_, Array.getElem?_eq_getElem (by omega)⟩
    obtain ⟨x4, h34⟩ : ∃ x, cur[34]? = some x := ⟨_, Array.getElem?_eq_getElem (by omega)⟩
    have g2 : w1.cell? ⟨wb, 32, none⟩ = some x2 := (eW 32).trans h32
    have g3 : w1.cell? ⟨wb, 33, none⟩ = some x3 := (eW 33).trans h33
    have g4 : w1.cell? ⟨wb, 34, none⟩ = some x4 := (eW 34).trans h34
    have gf : ∀ j, w1.frozen? ⟨wb, j, none⟩ = false := fun j => by simp [World.frozen?, hcw]
    have bB : w1.heap[bk]? = some (.cells #[.int .i64 e0, .int .i64 cn, .int .i64 v] 153 (0, 0)) := (H3.out.2.same _ (Ne.symm hQb)).trans HRB.out.2.2.2.2
    have b0' : w1.cell? ⟨bk, 0, none⟩ = some (.int .i64 e0) := by simp [World.cell?, bB]
    have b2' : w1.cell? ⟨bk, 2, none⟩ = some (.int .i64 v) := by simp [World.cell?, bB]
    have HS : Hid (cur.size = 35) := hcs
    clear h31 eW bB b0 b2 hcw e31 h32 h33 h34 hcs
    rename_i KB hKB
    refine hKB _ _ ?_
    go_upto_region 6 with fail
    go_region
    go_upto_region 11 with fail
    go_quiet (fail)
    go_wp2
    refine HPo.out _ ?_
    have k1 : ∃ cur, w1.heap[wb]? = some (.cells cur 138 (0, 0)) ∧ cur.size = 35 := ⟨cur, HCW.out, HS.out⟩
    have k2 := blk_set wb 31 (.slice (some ⟨Q, 0, none⟩) S c) k1
    have k3 := blk_set wb 32 (.int .i64 e0) k2
    have k4 := blk_set wb 33 (.int .i64 i) k3
    have k5 := blk_set wb 34 (.int .i64 g) k4
    refine ⟨?_, ?_, ?_, ?_, ?_, ?_, ?_, ?_, ?_, ?_⟩
    · show World.cell? (World.setCell _ _ _) _ = _
      rw [cell_far_off (by decide), cell_far_off (by decide), cell_far_off (by decide)]
      exact cell_here k1 (by decide)
    · show World.cell? (World.setCell _ _ _) _ = _
      rw [cell_far_off (by decide), cell_far_off (by decide)]
      exact cell_here k2 (by decide)
    · show World.cell? (World.setCell _ _ _) _ = _
      rw [cell_far_off (by decide)]
      exact cell_here k3 (by decide)
    · exact cell_here k4 (by decide)
    · refine H3.out.1.of_block ?_
      show (World.heap (World.setCell _ _ _))[Q]? = _
      rw [Below.heap_setCell _ _ _ _ hQw, Below.heap_setCell _ _ _ _ hQw, Below.heap_setCell _ _ _ _ hQw, Below.heap_setCell _ _ _ _ hQw]
    · intro j hj
      show World.cell? (World.setCell _ _ _) _ = _
      rw [cell_far_off (by omega), cell_far_off (by omega), cell_far_off (by omega), cell_far_off (by omega)]
      exact World.cell?_of_block (H3.out.2.same wb (Ne.symm hQw))
    · intro cur' t n h1 h2
      rw [HRB.out.2.2.2.1] at h1
      simp only [Option.some.injEq, Obj.cells.injEq] at h1
      obtain ⟨rfl, rfl, _⟩ := h1
      rw [← h2, HS.out]
      exact k5
    · intro k hk h1 h2
      show (World.heap (World.setCell _ _ _))[k]? = _
      rw [Below.heap_setCell _ _ _ _ h1, Below.heap_setCell _ _ _ _ h1, Below.heap_setCell _ _ _ _ h1, Below.heap_setCell _ _ _ _ h1]
      exact H3.out.2.same k h2
    · show _ ≤ (World.heap (World.setCell (World.setCell (World.setCell (World.setCell w1 _ _) _ _) _ _) _ _)).size
      simp only [World.setCell, Array.size_modify]
      exact Nat.le_of_eq H3.out.2.size.symm
    · intro M h1 h2 h3
      exact below_drewN ((((((H3.out.2.below M h1).setCell h2 _).setCell h2 _).setCell h2 _).setCell h2 _).drew) _

end Go.Proofs.Qxb6613648aFmt

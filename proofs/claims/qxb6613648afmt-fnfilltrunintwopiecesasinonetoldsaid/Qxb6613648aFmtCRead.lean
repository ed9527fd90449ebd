/-
  cursor.read whole.
-/
import Derived.Test.Qxb6613648aFmtCurs
namespace Go.Proofs.Qxb6613648aFmt
open Go.RowKit
set_option linter.unusedVariables false
set_option linter.unusedSimpArgs false
attribute [local go_sem] setCell_drewN alloc_drewN

theorem Rd.of_alloc {w w1 w' : World} {wb Q c e0 i g S : Nat} {Z : Nat → Int} (h : Rd w1 w' wb Q c e0 i g S Z) (hs : w.heap.size ≤ w1.heap.size) (hsame : ∀ k, k < w.heap.size → k ≠ wb → w1.heap[k]? = w.heap[k]?) (hrest : ∀ j, j < 31 → w1.cell? ⟨wb, j, none⟩ = w.cell? ⟨wb, j, none⟩) (hblk : ∀ cur t n, w.heap[wb]? = some (.cells cur t (0, 0)) → cur.size = n → ∃ cur', w1.heap[wb]? = some (.cells cur' t (0, 0)) ∧ cur'.size = n) (hbl : ∀ M, M ≤ wb → M ≤ w.heap.size → Below M w w1) : Rd w w' wb Q c e0 i g S Z :=
  ⟨h.c31, h.c32, h.c33, h.c34, h.row, fun j hj => (h.rest j hj).trans (hrest j hj), fun cur t n h1 h2 => by
    obtain ⟨cur', h3, h4⟩ := hblk cur t n h1 h2
    exact h.blk cur' t n h3 h4, fun k hk h1 h2 => (h.same k (Nat.lt_of_lt_of_le hk hs) h1 h2).trans (hsame k hk h1), Nat.le_trans hs h.size, fun M h1 h2 h3 => (hbl M h2 h3).trans (h.below M h1 h2 (Nat.le_trans h3 hs))⟩

theorem chunk_bd {v cn i e0 len g S : Nat} (hv0 : 0 < v) (hb : i < cn) (hS : S = g * v) (hg : g ≤ cn - i) (hroom : e0 + cn * v ≤ len) : e0 + i * v + S ≤ len ∧ g ≤ S := by
  have h1 : (i + g) * v ≤ cn * v := Nat.mul_le_mul_right v (by omega)
  rw [Nat.add_mul] at h1
  have h2 : g * 1 ≤ g * v := Nat.mul_le_mul_left g hv0
  omega

set_option maxRecDepth 1000000 in
set_option maxHeartbeats 2000000 in
theorem read_again (wb rb P len e0 cn v i Q bl c : Nat) (Z B : Nat → Int) (w : World)
    (h31 : w.cell? ⟨wb, 31, none⟩ = some (.slice (some ⟨Q, 0, none⟩) bl c)) (hW : ∃ cur, w.heap[wb]? = some (.cells cur 138 (0, 0)) ∧ cur.size = 35)
    (hrb : w.heap[rb]? = some (.cells #[.slice (some ⟨P, 0, none⟩) len len, .int .i64 0, .int .i64 (-1)] 141 (0, 0))) (hP : Row w P len B) (hQ : Row w Q c Z)
    (hb : i < cn) (hcn : cn ≤ 65536) (hv0 : 0 < v) (hv : v ≤ 16) (hlen : len ≤ 1048576) (hroom : e0 + cn * v ≤ len) (hc : c ≤ 1048576) (hSc : min (4096 / v) (cn - i) * v ≤ c) :
    Calls Tryf.prog 62 #[.pointer (some ⟨wb, 31, none⟩), .iface 90 (.pointer (some ⟨rb, 0, none⟩)), .agg #[.int .i64 e0, .int .i64 cn, .int .i64 v], .int .i64 i] w fun e w' => e = .returned (.tuple #[.slice (some ⟨Q, 0, none⟩) v c, .nilIface]) ∧ Rd w w' wb Q c e0 i (min (4096 / v) (cn - i)) (min (4096 / v) (cn - i) * v) (fun j => if j < min (4096 / v) (cn - i) * v then B (e0 + i * v + j) else Z j) := by
  obtain ⟨q, g, S, eq, eg, eS, hq1, hq2, hq3, hg0, hS0, hS1, hdiv⟩ := chunk hv0 hv hb
  have hbd := chunk_bd hv0 hb eS (by omega) hroom
  rw [← eq, ← eg, ← eS] at hSc ⊢
  have HR : Hid (w.heap[rb]? = some (.cells #[.slice (some ⟨P, 0, none⟩) len len, .int .i64 0, .int .i64 (-1)] 141 (0, 0)) ∧ Row w P len B ∧ Row w Q c Z ∧ (∃ cur, w.heap[wb]? = some (.cells cur 138 (0, 0)) ∧ cur.size = 35) ∧ e0 + cn * v ≤ len ∧ e0 + i * v + S ≤ len) := ⟨hrb, hP, hQ, hW, hroom, hbd.1⟩
  have hgb : g ≤ 65536 := Nat.le_trans hbd.2 (Nat.le_trans hS1 (by decide))
  have hvz : ¬ ((v : Int) = 0) := by clear hq1 hq2 hq3 hdiv; omega
  have hvz' : ((v : Int) == 0) = false := by simpa using hvz
  have hScd : ¬ c < S := Nat.not_lt.2 hSc
  have HB1 : Hid (Below w.heap.size w (w.alloc (.cells #[.int .i64 e0, .int .i64 cn, .int .i64 v] 153))) := (Below.refl _ _).alloc (Nat.le_refl _) _
  have hlw := lt_of_cell h31
  clear hW hrb hP hQ hroom hbd eS eg eq
  go_enter Tryf.func62, Tryf.ntmps62
  go_upto_region 1 with fail
  go_region
  try simp only [hq1, hq2, hq3]
  go_upto_region 2 with fail
  go_cut [32] (fun s wx => s = .bool false ∧ wx = (w.alloc (.cells #[.int .i64 e0, .int .i64 cn, .int .i64 v] 153)).drew)
  case first =>
    go_wp2
    go_meet
    exact ⟨rfl, rfl⟩
  case rest =>
    rename_i KA hKA KB hKB
    obtain ⟨rfl, rfl⟩ := hcut
    refine hKB _ _ (wp_cond_false rfl (wp_skip (hKA _ _ ?_)))
    obtain ⟨hrb, hP, hQ, ⟨cur, hcur, hcs⟩, hroom, hat⟩ := HR.out
    have hb1 := HB1.out.drew
    refine rd_4 wb rb w.heap.size P len e0 cn v i g S (i * v) Q bl c Z B _ _ _ _ _ _ _ _ _ _ _ _ _ _ _ _ _ _ _ _ _ _ _ _ _ _ _ _ _ _ _ _ _ _ _ _ _ _ _ _ _ _ _ _ _ _ _ _ _ _ _ _ _ _ _ _ _ _ _ _ _ _ _ _ _ _ _ _ _ _ _ _ _ _ _ _ _ _ _ _ _ _ _ _ _ _ _ _ _ _ _ _ _ _ _ _ _ _ _ _ _ _ _ _ _ _ _ _ _ _ ((hb1.cell hlw).trans h31) ⟨cur, (hb1.block wb hlw).trans hcur, hcs⟩ (by show (w.heap.push _)[w.heap.size]? = _; simp) ((hb1.block rb (lt_of_block hrb)).trans hrb) (hP.below hb1 hP.lt) (hQ.below hb1 hQ.lt) hb hcn hv0 hv hlen hg0 hgb hS0 hS1 hdiv hSc hc rfl hat (fun w' h => ⟨rfl, h.of_alloc hb1.size (fun k hk _ => hb1.block k hk) (fun j _ => hb1.cell hlw) (fun cur' t n h1 h2 => ⟨cur', (hb1.block wb hlw).trans h1, h2⟩) (fun M _ h2 => hb1.mono h2)⟩)

set_option maxRecDepth 1000000 in
set_option maxHeartbeats 2000000 in
theorem read_fresh (wb rb P len e0 cn v i : Nat) (B : Nat → Int) (w : World)
    (h31 : w.cell? ⟨wb, 31, none⟩ = some (.slice none 0 0)) (hW : ∃ cur, w.heap[wb]? = some (.cells cur 138 (0, 0)) ∧ cur.size = 35)
    (hrb : w.heap[rb]? = some (.cells #[.slice (some ⟨P, 0, none⟩) len len, .int .i64 0, .int .i64 (-1)] 141 (0, 0))) (hP : Row w P len B)
    (hb : i < cn) (hcn : cn ≤ 65536) (hv0 : 0 < v) (hv : v ≤ 16) (hlen : len ≤ 1048576) (hroom : e0 + cn * v ≤ len) :
    Calls Tryf.prog 62 #[.pointer (some ⟨wb, 31, none⟩), .iface 90 (.pointer (some ⟨rb, 0, none⟩)), .agg #[.int .i64 e0, .int .i64 cn, .int .i64 v], .int .i64 i] w fun e w' => e = .returned (.tuple #[.slice (some ⟨w.heap.size + 1, 0, none⟩) v (min (4096 / v) (cn - i) * v), .nilIface]) ∧ Rd w w' wb (w.heap.size + 1) (min (4096 / v) (cn - i) * v) e0 i (min (4096 / v) (cn - i)) (min (4096 / v) (cn - i) * v) (fun j => if j < min (4096 / v) (cn - i) * v then B (e0 + i * v + j) else 0) := by
  obtain ⟨q, g, S, eq, eg, eS, hq1, hq2, hq3, hg0, hS0, hS1, hdiv⟩ := chunk hv0 hv hb
  have hbd := chunk_bd hv0 hb eS (by omega) hroom
  rw [← eq, ← eg, ← eS]
  have HR : Hid (w.heap[rb]? = some (.cells #[.slice (some ⟨P, 0, none⟩) len len, .int .i64 0, .int .i64 (-1)] 141 (0, 0)) ∧ Row w P len B ∧ (∃ cur, w.heap[wb]? = some (.cells cur 138 (0, 0)) ∧ cur.size = 35) ∧ e0 + cn * v ≤ len ∧ e0 + i * v + S ≤ len) := ⟨hrb, hP, hW, hroom, hbd.1⟩
  have hgb : g ≤ 65536 := Nat.le_trans hbd.2 (Nat.le_trans hS1 (by decide))
  have hvz : ¬ ((v : Int) = 0) := by clear hq1 hq2 hq3 hdiv; omega
  have hvz' : ((v : Int) == 0) = false := by simpa using hvz
  have hScd : 0 < S := Nat.lt_of_lt_of_le hv0 hS0
  obtain ⟨ws, hws⟩ : ∃ ws, ws = w.setCell ⟨wb, 31, none⟩ (.slice (some ⟨w.heap.size + 1, 0, none⟩) S S) := ⟨_, rfl⟩
  have hwz : ws.heap.size = w.heap.size := by rw [hws]; simp [World.setCell]
  have HWS : Hid (ws = w.setCell ⟨wb, 31, none⟩ (.slice (some ⟨w.heap.size + 1, 0, none⟩) S S) ∧ ws.heap.size = w.heap.size) := ⟨hws, hwz⟩
  have hmk := mk_bytes S (Nat.le_trans hS1 (by decide))
  have hlw := lt_of_cell h31
  have hfz : w.frozen? ⟨wb, 31, none⟩ = false := by
    obtain ⟨cur, h1, h2⟩ := hW
    simp [World.frozen?, h1]
  clear hW hrb hP hroom hbd eS eg eq
  go_enter Tryf.func62, Tryf.ntmps62
  go_upto_region 1 with fail
  go_region
  try simp only [hq1, hq2, hq3]
  go_upto_if 32 with fail
  go_cut [] (fun wx => Hid (wx = ((((w.setCell ⟨wb, 31, none⟩ (.slice (some ⟨w.heap.size + 1, 0, none⟩) S S)).alloc (.cells #[.int .i64 e0, .int .i64 cn, .int .i64 v] 153)).alloc (.cells (madeCells #[.int .u8 0] S) 5)).drew)))
  case first =>
    go_wp2
    go_meet
    exact rfl
  case rest =>
    rename_i KB hKB
    have HC := hcut.out
    refine hKB _ _ ?_
    obtain ⟨hrb, hP, ⟨cur, hcur, hcs⟩, hroom, hat⟩ := HR.out
    rw [← hws] at HC
    have hb2 : Below ws.heap.size ws ((ws.alloc (.cells #[.int .i64 e0, .int .i64 cn, .int .i64 v] 153)).alloc (.cells (madeCells #[.int .u8 0] S) 5)).drew := (((Below.refl _ _).alloc (Nat.le_refl _) _).alloc (by simp) _).drew
    rw [← HC] at hb2
    have k1 : ∃ cur, ws.heap[wb]? = some (.cells cur 138 (0, 0)) ∧ cur.size = 35 := by rw [hws]; exact blk_set wb 31 _ ⟨cur, hcur, hcs⟩
    obtain ⟨cur2, hcur2, hcs2⟩ := k1
    have hwl : wb < ws.heap.size := by rw [hwz]; exact hlw
    have ne1 : rb ≠ wb := by
      rintro rfl
      rw [hrb] at hcur
      simp at hcur
    have ne2 : P ≠ wb := by
      obtain ⟨cp, p1, _⟩ := hP
      rintro rfl
      rw [p1] at hcur
      simp at hcur
    have hrb2 : ws.heap[rb]? = some (.cells #[.slice (some ⟨P, 0, none⟩) len len, .int .i64 0, .int .i64 (-1)] 141 (0, 0)) := by rw [hws]; exact (Below.heap_setCell _ _ _ _ ne1).trans hrb
    have hP2 : Row ws P len B := by rw [hws]; exact hP.of_block (Below.heap_setCell _ _ _ _ ne2)
    have hQ2 : Row wc (w.heap.size + 1) S (fun _ => 0) := by
      have := Row.made (ws.alloc (.cells #[.int .i64 e0, .int .i64 cn, .int .i64 v] 153)) S
      rw [show (ws.alloc (.cells #[.int .i64 e0, .int .i64 cn, .int .i64 v] 153)).heap.size = w.heap.size + 1 by simp [hwz]] at this
      rw [HC]
      exact this
    have hbk : wc.heap[w.heap.size]? = some (.cells #[.int .i64 e0, .int .i64 cn, .int .i64 v] 153 (0, 0)) := by
      rw [HC]
      show (World.heap (World.alloc _ _))[_]? = _
      rw [Below.heap_alloc _ _ _ (by simp [hwz])]
      show (ws.heap.push _)[w.heap.size]? = _
      rw [← hwz]
      simp
    have h31c : wc.cell? ⟨wb, 31, none⟩ = some (.slice (some ⟨w.heap.size + 1, 0, none⟩) S S) := (hb2.cell hwl).trans (by rw [hws]; exact cell_here ⟨cur, hcur, hcs⟩ (by decide))
    refine rd_4 wb rb w.heap.size P len e0 cn v i g S (i * v) (w.heap.size + 1) S S (fun _ => 0) B _ _ _ _ _ _ _ _ _ _ _ _ _ _ _ _ _ _ _ _ _ _ _ _ _ _ _ _ _ _ _ _ _ _ _ _ _ _ _ _ _ _ _ _ _ _ _ _ _ _ _ _ _ _ _ _ _ _ _ _ _ _ _ _ _ _ _ _ _ _ _ _ _ _ _ _ _ _ _ _ _ _ _ _ _ _ _ _ _ _ _ _ _ _ _ _ _ _ _ _ _ _ _ _ _ _ _ _ _ _ h31c ⟨cur2, (hb2.block wb hwl).trans hcur2, hcs2⟩ hbk ((hb2.block rb (lt_of_block hrb2)).trans hrb2) (hP2.below hb2 hP2.lt) hQ2 hb hcn hv0 hv hlen hg0 hgb hS0 hS1 hdiv (Nat.le_refl _) (Nat.le_trans hS1 (by decide)) rfl hat (fun w' h => ⟨rfl, h.of_alloc (Nat.le_trans (Nat.le_of_eq hwz.symm) hb2.size) (fun k hk hne => (hb2.block k (by rw [hwz]; exact hk)).trans (by rw [hws]; exact Below.heap_setCell _ _ _ _ hne)) (fun j hj => (hb2.cell hwl).trans (by rw [hws]; exact cell_far_off (by omega))) (fun cur' t n h1 h2 => ?_) (fun M h1 h2 => ?_)⟩)
    · obtain ⟨c3, h3, h4⟩ := blk_set (w := w) wb 31 (.slice (some ⟨w.heap.size + 1, 0, none⟩) S S) ⟨cur', h1, h2⟩
      rw [← hws] at h3
      exact ⟨c3, (hb2.block wb hwl).trans h3, h4⟩
    · have : Below M w ws := by rw [hws]; exact (Below.refl M w).setCell h1 _
      exact this.trans (hb2.mono (by rw [hwz]; exact h2))
end Go.Proofs.Qxb6613648aFmt

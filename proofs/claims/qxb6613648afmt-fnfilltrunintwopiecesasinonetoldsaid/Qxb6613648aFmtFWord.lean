/-
  fillTrun: the words of an entry.
-/
import Derived.Test.Qxb6613648aFmtFSt
import Derived.BigRegion
import Derived.Deep.RegionHeld
namespace Go.Proofs.Qxb6613648aFmt
open Go.RowKit
set_option linter.unusedVariables false
set_option linter.unusedSimpArgs false
attribute [local go_sem] setCell_drewN alloc_drewN

theorem SRow.congr {w : World} {D L : Nat} {O O' Z Z' : Nat → Int} {Y Y' : Nat → Bool} (h : SRow w D L O Z Y) (h1 : ∀ i, i < L → O i = O' i) (h2 : ∀ i, i < L → Z i = Z' i) (h3 : ∀ i, i < L → Y i = Y' i) : SRow w D L O' Z' Y' := by
  obtain ⟨c, g1, g2, g3⟩ := h
  exact ⟨c, g1, g2, fun i hi => by rw [← h1 i hi, ← h2 i hi, ← h3 i hi]; exact g3 i hi⟩

theorem FW.redst {fb mb rb tb sb P len qb cp cn e0 v N wb D L : Nat} {far left a sa fa sz x fl : Int} {hs b hf : Bool} {B : Nat → Int} {w0 wS : World} {w : World} {ent raw : Nat} {at' : Int} {O Z O' Z' : Nat → Int} {Y Y' : Nat → Bool} (h : FW fb mb rb tb sb P len qb cp cn e0 v N wb D L far left a sa fa sz x fl hs b hf B w0 wS w ent raw at' O Z Y) (h1 : ∀ i, i < L → O i = O' i) (h2 : ∀ i, i < L → Z i = Z' i) (h3 : ∀ i, i < L → Y i = Y' i) : FW fb mb rb tb sb P len qb cp cn e0 v N wb D L far left a sa fa sz x fl hs b hf B w0 wS w ent raw at' O' Z' Y' :=
  ⟨h.rt, h.tr, h.below, h.keep, h.wk, h.c0, h.c1, h.c12, h.c13, h.c14, h.cur, h.dst.congr h1 h2 h3⟩

theorem alloc_keep {w : World} {o : Obj} {n : Nat} {x : Obj} (h : w.heap[n]? = some x) : (w.alloc o).heap[n]? = some x := (Below.heap_alloc _ _ _ (lt_of_block h)).trans h
theorem alloc_new {w : World} {o : Obj} {n : Nat} (h : n = w.heap.size) : (w.alloc o).heap[n]? = some o := by subst h; show (w.heap.push o)[w.heap.size]? = _; simp

/-- What stands in the first branch of the 'if' on slot k. -/
def thenOf (k : Nat) : Code → Option Code
  | .cond (.tmp i) x y => if i = k then some x else (thenOf k x).or (thenOf k y)
  | .seq a b => (thenOf k a).or (thenOf k b)
  | .block _ c => thenOf k c
  | .loop c => thenOf k c
  | _ => none

theorem cells_ne' {w : World} {j k : Nat} {c c' : Array Value} {t t' : TypeId} {f f' : Nat × Nat} (h : w.heap[j]? = some (.cells c t f)) (h' : w.heap[k]? = some (.cells c' t' f')) (ht : t ≠ t') : j ≠ k := by
  rintro rfl
  rw [h] at h'
  simp only [Option.some.injEq, Obj.cells.injEq] at h'
  exact ht h'.2.1

theorem bytes_ne {w : World} {Q z v db : Nat} {B' : Nat → Int} {a b c d : Value} (hb : Bytes w Q z v B') (hv : 0 < v) (hd : w.heap[db]? = some (.cells #[a, b, c, d] 109 (0, 0))) (ha : ∀ n, a ≠ .int .u8 n) (hb' : ∀ n, b ≠ .int .u8 n) (hc : ∀ n, c ≠ .int .u8 n) (hd' : ∀ n, d ≠ .int .u8 n) : Q ≠ db := by
  rintro rfl
  have := hb 0 hv
  rw [Nat.add_zero] at this
  simp only [World.cell?, hd] at this
  match z, this with
  | 0, h => exact ha _ (by simpa using h)
  | 1, h => exact hb' _ (by simpa using h)
  | 2, h => exact hc _ (by simpa using h)
  | 3, h => exact hd' _ (by simpa using h)
  | z + 4, h => simp at h

/-- A word of the call's own block is set, behind the making of an empty block. -/
theorem own_set {w : World} {db i : Nat} {u : Value} {c : Array Value} (hd : w.heap[db]? = some (.cells c 109 (0, 0))) (n : Nat) : (∀ (k : Nat) (c : Array Value) (t : TypeId) (f : Nat × Nat), w.heap[k]? = some (.cells c t f) → t ≠ 109 → t ≠ 153 → (((w.setCell ⟨db, i, none⟩ u).alloc (.cells #[] 163)).drewN n).heap[k]? = some (.cells c t f))
    ∧ (((w.setCell ⟨db, i, none⟩ u).alloc (.cells #[] 163)).drewN n).heap[db]? = some (.cells (c.setIfInBounds i u) 109 (0, 0)) ∧ (∀ k, k ≠ db → k < w.heap.size → (((w.setCell ⟨db, i, none⟩ u).alloc (.cells #[] 163)).drewN n).heap[k]? = w.heap[k]?) ∧ ∀ N, N ≤ db → Below N w (((w.setCell ⟨db, i, none⟩ u).alloc (.cells #[] 163)).drewN n) := by
  have hs : (w.setCell ⟨db, i, none⟩ u).heap.size = w.heap.size := by simp [World.setCell]
  have hl := lt_of_block hd
  have sm : ∀ k, k ≠ db → k < w.heap.size → (((w.setCell ⟨db, i, none⟩ u).alloc (.cells #[] 163)).drewN n).heap[k]? = w.heap[k]? := fun k h1 h2 => by
    show ((w.setCell ⟨db, i, none⟩ u).alloc (.cells #[] 163)).heap[k]? = _
    rw [Below.heap_alloc _ _ _ (by omega), Below.heap_setCell _ _ _ _ h1]
  refine ⟨fun k c' t f h1 h2 h3 => (sm k (cells_ne' h1 hd h2) (lt_of_block h1)).trans h1, ?_, sm, fun N hN => below_drewN (((Below.refl N w).setCell hN _).alloc (by omega) _) n⟩
  show ((w.setCell ⟨db, i, none⟩ u).alloc (.cells #[] 163)).heap[db]? = _
  rw [Below.heap_alloc _ _ _ (by omega)]
  simp only [World.setCell, Array.getElem?_modify, hd]
  simp

set_option maxRecDepth 1000000 in
set_option maxHeartbeats 8000000 in
theorem fl_20 (fb mb rb tb sb P len qb cp cn e0 v N wb D L : Nat) (far left a sa fa sz x fl : Int) (hs b hf : Bool) (B : Nat → Int) (w0 wS : World) (m k rw n eb db Q z c : Nat) (at1 : Int) (O Z : Nat → Int) (Y : Nat → Bool) (K : Act → World → Prop) (post : Ending → World → Prop) (w1 : World) (u2 u3 u4 u5 u13 u14 u15 u16 u17 u18 u19 u20 u21 u22 u23 u24 u25 u26 u27 u28 u29 u30 u31 u32 u33 u34 u35 u36 u37 u38 u39 u40 u41 u42 u43 u44 u45 u46 u47 u48 u49 u50 u51 u52 u53 u54 u55 u56 u57 u58 u59 u60 u61 u62 u63 u64 u65 u66 u67 u68 u69 u70 u71 u72 u73 u74 u75 u76 u77 u78 u79 u80 u81 u82 u83 u84 u85 u86 u87 u88 u89 u90 u91 u92 u93 u94 u95 u96 u97 u98 u99 u100 u101 u102 u103 u104 u105 u106 u107 u108 u109 u110 u111 u112 u113 u114 u115 u116 u117 u118 u119 u120 u121 u122 u123 u124 u125 u126 u127 u128 u129 u130 u131 u132 u133 u134 u135 u136 u137 u138 u139 u140 u141 u142 u143 u144 u145 u146 u147 u148 u149 u150 u151 u152 u153 u154 u155 u156 u157 u158 u159 u160 u161 u162 u163 u164 u165 u166 u167 u168 u169 u170 u171 u172 u173 u174 u175 u176 u177 u178 u179 u180 u181 u182 u183 u184 u185 u186 u187 u188 u189 u190 u191 u192 u193 u194 u195 u196 u197 u198 u199 u200 u201 u202 u203 u204 u205 u206 u207 u208 u209 u210 u211 u212 u213 u214 u215 u216 u217 u218 u219 u220 u221 u222 u223 u224 u225 u226 u227 : Value)
    (hA : (FW fb mb rb tb sb P len qb cp cn e0 v N wb D L far left a sa fa sz x fl hs b hf B w0 wS w1 m rw at1 O Z Y ∧ w1.heap[db]? = some (.cells #[.int .u32 sz, .int .u32 (if m = 0 then x else fl), (.bool hs), (.bool (if m = 0 then b else hf))] 109 (0, 0)) ∧ w1.heap[eb]? = some (.cells #[.int .i64 e0, .int .i64 cn, .int .i64 v] 153 (0, 0)) ∧ Bytes w1 Q z v (fun j => B (e0 + m * v + j)))) (hNdb : N ≤ db) (hvc : v ≤ c) (hc4 : c ≤ 4096) (hv : v ≤ 16) (hv1 : 0 < v) (hsa : 0 ≤ sa → sa + 4 ≤ v) (hfa : 0 ≤ fa → fa + 4 ≤ v) (hB : Byte B)
    (hK : ∀ (z146 z147 z148 z149 z150 z151 z152 z153 z154 z155 z156 z157 z158 z159 z160 z161 z162 z163 z164 z165 z166 z167 z168 z169 z170 z171 z172 z173 : Value) (w' : World), (FW fb mb rb tb sb P len qb cp cn e0 v N wb D L far left a sa fa sz x fl hs b hf B w0 wS w' m rw at1 O Z Y ∧ (∃ y1 y2, w'.heap[db]? = some (.cells #[.int .u32 ((szOf B e0 v sa sz) m), .int .u32 ((fgOf B e0 v fa x fl) m), y1, y2] 109 (0, 0))) ∧ w'.heap[eb]? = some (.cells #[.int .i64 e0, .int .i64 cn, .int .i64 v] 153 (0, 0))) → K ⟨#[.pointer (some ⟨wb, 0, none⟩), .slice (some ⟨D, 0, none⟩) L L, u2, u3, u4, u5, .pointer (some ⟨wb, 1, none⟩), .pointer (some ⟨qb, 0, none⟩), .pointer (some ⟨eb, 0, none⟩), .int .i64 n, .int .i64 k, .pointer (some ⟨db, 0, none⟩), .slice (some ⟨Q, z, none⟩) v c, u13, u14, u15, u16, u17, u18, u19, u20, u21, u22, u23, u24, u25, u26, u27, u28, u29, u30, u31, u32, u33, u34, u35, u36, u37, u38, u39, u40, u41, u42, u43, u44, u45, u46, u47, u48, u49, u50, u51, u52, u53, u54, u55, u56, u57, u58, u59, u60, u61, u62, u63, u64, u65, u66, u67, u68, u69, u70, u71, u72, u73, u74, u75, u76, u77, u78, u79, u80, u81, u82, u83, u84, u85, u86, u87, u88, u89, u90, u91, u92, u93, u94, u95, u96, u97, u98, u99, u100, u101, u102, u103, u104, u105, u106, u107, u108, u109, u110, u111, u112, u113, u114, u115, u116, u117, u118, u119, u120, u121, u122, u123, u124, u125, u126, u127, u128, u129, u130, u131, u132, u133, u134, u135, u136, u137, u138, u139, u140, u141, u142, u143, u144, u145, z146, z147, z148, z149, z150, z151, z152, z153, z154, z155, z156, z157, z158, z159, z160, z161, z162, z163, z164, z165, z166, z167, z168, z169, z170, z171, z172, z173, u174, u175, u176, u177, u178, u179, u180, u181, u182, u183, u184, u185, u186, u187, u188, u189, u190, u191, u192, u193, u194, u195, u196, u197, u198, u199, u200, u201, u202, u203, u204, u205, u206, u207, u208, u209, u210, u211, u212, u213, u214, u215, u216, u217, u218, u219, u220, u221, u222, u223, u224, u225, u226, u227], []⟩ w') :
    Code.wp Tryf.prog (((Tryf.f51.body.bind (thenOf 112)).bind (fromReg 20)).getD .skip) (Exit.then K (bodyPost Tryf.prog Tryf.f51 post)) ⟨#[.pointer (some ⟨wb, 0, none⟩), .slice (some ⟨D, 0, none⟩) L L, u2, u3, u4, u5, .pointer (some ⟨wb, 1, none⟩), .pointer (some ⟨qb, 0, none⟩), .pointer (some ⟨eb, 0, none⟩), .int .i64 n, .int .i64 k, .pointer (some ⟨db, 0, none⟩), .slice (some ⟨Q, z, none⟩) v c, u13, u14, u15, u16, u17, u18, u19, u20, u21, u22, u23, u24, u25, u26, u27, u28, u29, u30, u31, u32, u33, u34, u35, u36, u37, u38, u39, u40, u41, u42, u43, u44, u45, u46, u47, u48, u49, u50, u51, u52, u53, u54, u55, u56, u57, u58, u59, u60, u61, u62, u63, u64, u65, u66, u67, u68, u69, u70, u71, u72, u73, u74, u75, u76, u77, u78, u79, u80, u81, u82, u83, u84, u85, u86, u87, u88, u89, u90, u91, u92, u93, u94, u95, u96, u97, u98, u99, u100, u101, u102, u103, u104, u105, u106, u107, u108, u109, u110, u111, u112, u113, u114, u115, u116, u117, u118, u119, u120, u121, u122, u123, u124, u125, u126, u127, u128, u129, u130, u131, u132, u133, u134, u135, u136, u137, u138, u139, u140, u141, u142, u143, u144, u145, u146, u147, u148, u149, u150, u151, u152, u153, u154, u155, u156, u157, u158, u159, u160, u161, u162, u163, u164, u165, u166, u167, u168, u169, u170, u171, u172, u173, u174, u175, u176, u177, u178, u179, u180, u181, u182, u183, u184, u185, u186, u187, u188, u189, u190, u191, u192, u193, u194, u195, u196, u197, u198, u199, u200, u201, u202, u203, u204, u205, u206, u207, u208, u209, u210, u211, u212, u213, u214, u215, u216, u217, u218, u219, u220, u221, u222, u223, u224, u225, u226, u227], []⟩ w1 := by
  have HA : Hid (FW fb mb rb tb sb P len qb cp cn e0 v N wb D L far left a sa fa sz x fl hs b hf B w0 wS w1 m rw at1 O Z Y ∧ w1.heap[db]? = some (.cells #[.int .u32 sz, .int .u32 (if m = 0 then x else fl), (.bool hs), (.bool (if m = 0 then b else hf))] 109 (0, 0)) ∧ w1.heap[eb]? = some (.cells #[.int .i64 e0, .int .i64 cn, .int .i64 v] 153 (0, 0)) ∧ Bytes w1 Q z v (fun j => B (e0 + m * v + j))) := hA
  have HK : Hid (∀ (z146 z147 z148 z149 z150 z151 z152 z153 z154 z155 z156 z157 z158 z159 z160 z161 z162 z163 z164 z165 z166 z167 z168 z169 z170 z171 z172 z173 : Value) (w' : World), (FW fb mb rb tb sb P len qb cp cn e0 v N wb D L far left a sa fa sz x fl hs b hf B w0 wS w' m rw at1 O Z Y ∧ (∃ y1 y2, w'.heap[db]? = some (.cells #[.int .u32 ((szOf B e0 v sa sz) m), .int .u32 ((fgOf B e0 v fa x fl) m), y1, y2] 109 (0, 0))) ∧ w'.heap[eb]? = some (.cells #[.int .i64 e0, .int .i64 cn, .int .i64 v] 153 (0, 0))) → K ⟨#[.pointer (some ⟨wb, 0, none⟩), .slice (some ⟨D, 0, none⟩) L L, u2, u3, u4, u5, .pointer (some ⟨wb, 1, none⟩), .pointer (some ⟨qb, 0, none⟩), .pointer (some ⟨eb, 0, none⟩), .int .i64 n, .int .i64 k, .pointer (some ⟨db, 0, none⟩), .slice (some ⟨Q, z, none⟩) v c, u13, u14, u15, u16, u17, u18, u19, u20, u21, u22, u23, u24, u25, u26, u27, u28, u29, u30, u31, u32, u33, u34, u35, u36, u37, u38, u39, u40, u41, u42, u43, u44, u45, u46, u47, u48, u49, u50, u51, u52, u53, u54, u55, u56, u57, u58, u59, u60, u61, u62, u63, u64, u65, u66, u67, u68, u69, u70, u71, u72, u73, u74, u75, u76, u77, u78, u79, u80, u81, u82, u83, u84, u85, u86, u87, u88, u89, u90, u91, u92, u93, u94, u95, u96, u97, u98, u99, u100, u101, u102, u103, u104, u105, u106, u107, u108, u109, u110, u111, u112, u113, u114, u115, u116, u117, u118, u119, u120, u121, u122, u123, u124, u125, u126, u127, u128, u129, u130, u131, u132, u133, u134, u135, u136, u137, u138, u139, u140, u141, u142, u143, u144, u145, z146, z147, z148, z149, z150, z151, z152, z153, z154, z155, z156, z157, z158, z159, z160, z161, z162, z163, z164, z165, z166, z167, z168, z169, z170, z171, z172, z173, u174, u175, u176, u177, u178, u179, u180, u181, u182, u183, u184, u185, u186, u187, u188, u189, u190, u191, u192, u193, u194, u195, u196, u197, u198, u199, u200, u201, u202, u203, u204, u205, u206, u207, u208, u209, u210, u211, u212, u213, u214, u215, u216, u217, u218, u219, u220, u221, u222, u223, u224, u225, u226, u227], []⟩ w') := hK
  have HBy : Hid (Byte B) := hB
  have b4 : w1.cell? ⟨qb, 4, none⟩ = some (.int .i64 sa) := hA.1.tr.cell (i := 4) (by decide)
  have d0 : w1.cell? ⟨db, 0, none⟩ = some (.int .u32 sz) := by simp [World.cell?, hA.2.1]
  have df : w1.frozen? ⟨db, 0, none⟩ = false := by simp [World.frozen?, hA.2.1]
  have ldb := lt_of_cell d0
  have lqb := lt_of_cell b4
  clear hA hK hB
  conv => arg 2; whnf
  conv => arg 4; zeta
  refine wp_seq_k fun K1 hK1 => ?_
  go_cut [] from 146 to 159 (fun wx => Hid (FW fb mb rb tb sb P len qb cp cn e0 v N wb D L far left a sa fa sz x fl hs b hf B w0 wS wx m rw at1 O Z Y ∧ wx.heap[db]? = some (.cells #[.int .u32 ((szOf B e0 v sa sz) m), .int .u32 (if m = 0 then x else fl), (.bool hs), (.bool (if m = 0 then b else hf))] 109 (0, 0)) ∧ wx.heap[eb]? = some (.cells #[.int .i64 e0, .int .i64 cn, .int .i64 v] 153 (0, 0)) ∧ Bytes wx Q z v (fun j => B (e0 + m * v + j))))
  case first =>
    by_cases hs0 : 0 ≤ sa
    · obtain ⟨s1, hs1⟩ : ∃ s1 : Nat, (s1 : Int) = sa := ⟨sa.toNat, by omega⟩
      have hs4 : s1 + 4 ≤ v := by have := hsa hs0; omega
      have HX : Hid ((szOf B e0 v sa sz) m = be (fun j => B (e0 + m * v + s1 + j)) 0) := by
        show _ = _
        unfold szOf
        rw [if_pos hs0, ← hs1]
        have : ((e0 : Int) + (m : Int) * (v : Int) + (s1 : Int)).toNat = e0 + m * v + s1 := by
          have h2 : (m : Int) * (v : Int) = ((m * v : Nat) : Int) := by simp
          rw [h2]; omega
        rw [this]
        rfl
      have HBs : Hid (Bytes w1 Q (z + s1) 4 (fun j => B (e0 + m * v + s1 + j))) := by
        have := HA.out.2.2.2.part s1 4 hs4
        intro i hi
        have h3 := this i hi
        rw [h3]
        show some (Value.int .u8 (B (e0 + m * v + (s1 + i)))) = some (Value.int .u8 (B (e0 + m * v + s1 + i)))
        rw [Nat.add_assoc (e0 + m * v)]
      rw [← hs1] at b4
      clear hs1 hsa hs0
      have hlt : s1 < c := by omega
      have hnc : ¬ c = s1 := by omega
      have hle : ¬ v < s1 := by omega
      have hcs : ¬ c < s1 := by omega
      go_upto_region 21 with fail
      go_region_with (go_at_call 60; refine (u32_any Q (z + s1) (v - s1) (c - s1) (fun j => B (e0 + m * v + s1 + j)) w1.drew ?_ ?_ HBs.out ?_).mono ?_; omega; omega; exact fun j => HBy.out (e0 + m * v + s1 + j); rintro e w7 ⟨rfl, n7, rfl⟩; rw [← HX.out])
      all_goals
        have HS : Hid (FW fb mb rb tb sb P len qb cp cn e0 v N wb D L far left a sa fa sz x fl hs b hf B w0 wS (((w1.setCell ⟨db, 0, none⟩ (.int .u32 ((szOf B e0 v sa sz) m))).alloc (.cells #[] 163)).drewN (1 + n7)) m rw at1 O Z Y ∧ (((w1.setCell ⟨db, 0, none⟩ (.int .u32 ((szOf B e0 v sa sz) m))).alloc (.cells #[] 163)).drewN (1 + n7)).heap[db]? = some (.cells #[.int .u32 ((szOf B e0 v sa sz) m), .int .u32 (if m = 0 then x else fl), (.bool hs), (.bool (if m = 0 then b else hf))] 109 (0, 0)) ∧ (((w1.setCell ⟨db, 0, none⟩ (.int .u32 ((szOf B e0 v sa sz) m))).alloc (.cells #[] 163)).drewN (1 + n7)).heap[eb]? = some (.cells #[.int .i64 e0, .int .i64 cn, .int .i64 v] 153 (0, 0)) ∧ Bytes (((w1.setCell ⟨db, 0, none⟩ (.int .u32 ((szOf B e0 v sa sz) m))).alloc (.cells #[] 163)).drewN (1 + n7)) Q z v (fun j => B (e0 + m * v + j))) := by
          obtain ⟨g1, g2, g3, g4⟩ := HA.out
          obtain ⟨o1, o2, o3, o4⟩ := own_set (i := 0) (u := .int .u32 ((szOf B e0 v sa sz) m)) g2 (1 + n7)
          have hQ : Q ≠ db := bytes_ne g4 hv1 g2 (by simp) (by simp) (by simp) (by simp)
          exact ⟨g1.own (o4 N hNdb) o1, o2, (o3 eb (cells_ne' g3 g2 (by decide)) (lt_of_block g3)).trans g3, fun i hi => (World.cell?_of_block (o3 Q hQ (lt_of_cell (g4 i hi)))).trans (g4 i hi)⟩
        go_wp2
        go_meet
        exact HS
    · have hsd : decide (0 ≤ sa) = false := decide_eq_false hs0
      have HZ : Hid ((szOf B e0 v sa sz) m = sz) := by show _ = _; unfold szOf; rw [if_neg hs0]
      clear hs0
      go_wp2
      go_meet
      rw [HZ.out]
      exact HA.out
  case rest =>
    obtain ⟨w2, hw2⟩ : ∃ w2, w2 = wc := ⟨_, rfl⟩
    subst hw2
    have HB2 : Hid (FW fb mb rb tb sb P len qb cp cn e0 v N wb D L far left a sa fa sz x fl hs b hf B w0 wS w2 m rw at1 O Z Y ∧ w2.heap[db]? = some (.cells #[.int .u32 ((szOf B e0 v sa sz) m), .int .u32 (if m = 0 then x else fl), (.bool hs), (.bool (if m = 0 then b else hf))] 109 (0, 0)) ∧ w2.heap[eb]? = some (.cells #[.int .i64 e0, .int .i64 cn, .int .i64 v] 153 (0, 0)) ∧ Bytes w2 Q z v (fun j => B (e0 + m * v + j))) := hcut
    clear hcut b4 d0 df ldb lqb HA
    have b5 : w2.cell? ⟨qb, 5, none⟩ = some (.int .i64 fa) := HB2.out.1.tr.cell (i := 5) (by decide)
    have d1 : w2.cell? ⟨db, 1, none⟩ = some (.int .u32 (if m = 0 then x else fl)) := by simp [World.cell?, HB2.out.2.1]
    have df : w2.frozen? ⟨db, 1, none⟩ = false := by simp [World.frozen?, HB2.out.2.1]
    have ldb := lt_of_cell d1
    have lqb := lt_of_cell b5
    refine hK1 _ _ ?_
    by_cases hs0 : 0 ≤ fa
    · obtain ⟨s1, hs1⟩ : ∃ s1 : Nat, (s1 : Int) = fa := ⟨fa.toNat, by omega⟩
      have hs4 : s1 + 4 ≤ v := by have := hfa hs0; omega
      have HX : Hid ((fgOf B e0 v fa x fl) m = be (fun j => B (e0 + m * v + s1 + j)) 0) := by
        show _ = _
        unfold fgOf
        rw [if_pos hs0, ← hs1]
        have : ((e0 : Int) + (m : Int) * (v : Int) + (s1 : Int)).toNat = e0 + m * v + s1 := by
          have h2 : (m : Int) * (v : Int) = ((m * v : Nat) : Int) := by simp
          rw [h2]; omega
        rw [this]
        rfl
      have HBs : Hid (Bytes w2 Q (z + s1) 4 (fun j => B (e0 + m * v + s1 + j))) := by
        have := HB2.out.2.2.2.part s1 4 hs4
        intro i hi
        have h3 := this i hi
        rw [h3]
        show some (Value.int .u8 (B (e0 + m * v + (s1 + i)))) = some (Value.int .u8 (B (e0 + m * v + s1 + i)))
        rw [Nat.add_assoc (e0 + m * v)]
      rw [← hs1] at b5
      clear hs1 hfa hsa hs0
      have hlt : s1 < c := by omega
      have hnc : ¬ c = s1 := by omega
      have hle : ¬ v < s1 := by omega
      have hcs : ¬ c < s1 := by omega
      go_upto_region 23 with fail
      go_region_with (go_at_call 60; refine (u32_any Q (z + s1) (v - s1) (c - s1) (fun j => B (e0 + m * v + s1 + j)) w2.drew ?_ ?_ HBs.out ?_).mono ?_; omega; omega; exact fun j => HBy.out (e0 + m * v + s1 + j); rintro e w7 ⟨rfl, n7, rfl⟩; rw [← HX.out])
      all_goals
        have HS : Hid (FW fb mb rb tb sb P len qb cp cn e0 v N wb D L far left a sa fa sz x fl hs b hf B w0 wS (((w2.setCell ⟨db, 1, none⟩ (.int .u32 ((fgOf B e0 v fa x fl) m))).alloc (.cells #[] 163)).drewN (1 + n7)) m rw at1 O Z Y ∧ (∃ y1 y2, (((w2.setCell ⟨db, 1, none⟩ (.int .u32 ((fgOf B e0 v fa x fl) m))).alloc (.cells #[] 163)).drewN (1 + n7)).heap[db]? = some (.cells #[.int .u32 ((szOf B e0 v sa sz) m), .int .u32 ((fgOf B e0 v fa x fl) m), y1, y2] 109 (0, 0))) ∧ (((w2.setCell ⟨db, 1, none⟩ (.int .u32 ((fgOf B e0 v fa x fl) m))).alloc (.cells #[] 163)).drewN (1 + n7)).heap[eb]? = some (.cells #[.int .i64 e0, .int .i64 cn, .int .i64 v] 153 (0, 0))) := by
          obtain ⟨g1, g2, g3, g4⟩ := HB2.out
          obtain ⟨o1, o2, o3, o4⟩ := own_set (i := 1) (u := .int .u32 ((fgOf B e0 v fa x fl) m)) g2 (1 + n7)
          exact ⟨g1.own (o4 N hNdb) o1, ⟨_, _, o2⟩, (o3 eb (cells_ne' g3 g2 (by decide)) (lt_of_block g3)).trans g3⟩
        exact HK.out _ _ _ _ _ _ _ _ _ _ _ _ _ _ _ _ _ _ _ _ _ _ _ _ _ _ _ _ _ HS.out
    · have hsd : decide (0 ≤ fa) = false := decide_eq_false hs0
      have HZ : Hid ((fgOf B e0 v fa x fl) m = (if m = 0 then x else fl)) := by show _ = _; unfold fgOf; rw [if_neg hs0]
      clear hs0
      have HS : Hid (FW fb mb rb tb sb P len qb cp cn e0 v N wb D L far left a sa fa sz x fl hs b hf B w0 wS w2 m rw at1 O Z Y ∧ (∃ y1 y2, w2.heap[db]? = some (.cells #[.int .u32 ((szOf B e0 v sa sz) m), .int .u32 ((fgOf B e0 v fa x fl) m), y1, y2] 109 (0, 0))) ∧ w2.heap[eb]? = some (.cells #[.int .i64 e0, .int .i64 cn, .int .i64 v] 153 (0, 0))) := by
        obtain ⟨g1, g2, g3, g4⟩ := HB2.out
        show (FW fb mb rb tb sb P len qb cp cn e0 v N wb D L far left a sa fa sz x fl hs b hf B w0 wS w2 m rw at1 O Z Y ∧ (∃ y1 y2, w2.heap[db]? = some (.cells #[.int .u32 ((szOf B e0 v sa sz) m), .int .u32 ((fgOf B e0 v fa x fl) m), y1, y2] 109 (0, 0))) ∧ w2.heap[eb]? = some (.cells #[.int .i64 e0, .int .i64 cn, .int .i64 v] 153 (0, 0)))
        rw [HZ.out]
        exact ⟨g1, ⟨_, _, g2⟩, g3⟩
      go_wp2
      exact HK.out _ _ _ _ _ _ _ _ _ _ _ _ _ _ _ _ _ _ _ _ _ _ _ _ _ _ _ _ _ HS.out
end Go.Proofs.Qxb6613648aFmt

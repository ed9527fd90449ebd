/-
  fillTrun: an entry is held, or read.
-/
import Derived.Test.Qxb6613648aFmtFWord
namespace Go.Proofs.Qxb6613648aFmt
open Go.RowKit
set_option linter.unusedVariables false
set_option linter.unusedSimpArgs false
attribute [local go_sem] setCell_drewN alloc_drewN

theorem Rd.undrew {w w' : World} {wb Q c e0 i g S : Nat} {Z : Nat → Int} (h : Rd w.drew w' wb Q c e0 i g S Z) : Rd w w' wb Q c e0 i g S Z :=
  ⟨h.c31, h.c32, h.c33, h.c34, h.row, h.rest, h.blk, h.same, h.size, fun M a b c => ((Below.refl M w).drew).trans (h.below M a b c)⟩

theorem fresh_no {w : World} {o : Obj} {p : Prop} (h : w.heap[w.heap.size + 1]? = some o) : p := by
  have := lt_of_block h
  omega
theorem fresh_ne {w : World} {k : Nat} (h : k < w.heap.size) : w.heap.size + 1 ≠ k := by omega
theorem min_mono {q x f m : Nat} (h : f ≤ m) : min q (x - m) ≤ min q (x - f) := by omega

theorem chunk_le {v x : Nat} (hv0 : 0 < v) (hv : v ≤ 16) : min (4096 / v) x * v ≤ 4096 :=
  Nat.le_trans (Nat.mul_le_mul_right v (Nat.min_le_left _ _)) (Nat.div_mul_le_self _ _)

theorem read_fresh' (wb rb P len e0 cn v i g S : Nat) (B : Nat → Int) (w : World) (HG : Hid (g = min (4096 / v) (cn - i) ∧ S = g * v))
    (h31 : w.cell? ⟨wb, 31, none⟩ = some (.slice none 0 0)) (hW : ∃ cur, w.heap[wb]? = some (.cells cur 138 (0, 0)) ∧ cur.size = 35)
    (hrb : w.heap[rb]? = some (.cells #[.slice (some ⟨P, 0, none⟩) len len, .int .i64 0, .int .i64 (-1)] 141 (0, 0))) (hP : Row w P len B)
    (hb : i < cn) (hcn : cn ≤ 65536) (hv0 : 0 < v) (hv : v ≤ 16) (hlen : len ≤ 1048576) (hroom : e0 + cn * v ≤ len) :
    Calls Tryf.prog 62 #[.pointer (some ⟨wb, 31, none⟩), .iface 90 (.pointer (some ⟨rb, 0, none⟩)), .agg #[.int .i64 e0, .int .i64 cn, .int .i64 v], .int .i64 i] w fun e w' => e = .returned (.tuple #[.slice (some ⟨w.heap.size + 1, 0, none⟩) v S, .nilIface]) ∧ Rd w w' wb (w.heap.size + 1) S e0 i g S (fun j => if j < S then B (e0 + i * v + j) else 0) := by
  rw [HG.out.2, HG.out.1]
  exact read_fresh wb rb P len e0 cn v i B w h31 hW hrb hP hb hcn hv0 hv hlen hroom

theorem read_again' (wb rb P len e0 cn v i g S Q bl c : Nat) (Z B : Nat → Int) (w : World) (HG : Hid (g = min (4096 / v) (cn - i) ∧ S = g * v))
    (h31 : w.cell? ⟨wb, 31, none⟩ = some (.slice (some ⟨Q, 0, none⟩) bl c)) (hW : ∃ cur, w.heap[wb]? = some (.cells cur 138 (0, 0)) ∧ cur.size = 35)
    (hrb : w.heap[rb]? = some (.cells #[.slice (some ⟨P, 0, none⟩) len len, .int .i64 0, .int .i64 (-1)] 141 (0, 0))) (hP : Row w P len B) (hQ : Row w Q c Z)
    (hb : i < cn) (hcn : cn ≤ 65536) (hv0 : 0 < v) (hv : v ≤ 16) (hlen : len ≤ 1048576) (hroom : e0 + cn * v ≤ len) (hc : c ≤ 1048576) (hSc : S ≤ c) :
    Calls Tryf.prog 62 #[.pointer (some ⟨wb, 31, none⟩), .iface 90 (.pointer (some ⟨rb, 0, none⟩)), .agg #[.int .i64 e0, .int .i64 cn, .int .i64 v], .int .i64 i] w fun e w' => e = .returned (.tuple #[.slice (some ⟨Q, 0, none⟩) v c, .nilIface]) ∧ Rd w w' wb Q c e0 i g S (fun j => if j < S then B (e0 + i * v + j) else Z j) := by
  rw [HG.out.2, HG.out.1] at *
  exact read_again wb rb P len e0 cn v i Q bl c Z B w h31 hW hrb hP hQ hb hcn hv0 hv hlen hroom hc hSc

set_option maxRecDepth 1000000 in
set_option maxHeartbeats 8000000 in
theorem fl_read (fb mb rb tb sb P len qb cp cn e0 v N wb D L : Nat) (far left a sa fa sz x fl : Int) (hs b hf : Bool) (B : Nat → Int) (w0 wS : World) (m k rw n eb db : Nat) (at1 : Int) (O Z : Nat → Int) (Y : Nat → Bool) (K : Act → World → Prop) (post : Ending → World → Prop) (w1 : World) (u2 u3 u4 u5 u12 u13 u14 u15 u16 u17 u18 u19 u20 u21 u22 u23 u24 u25 u26 u27 u28 u29 u30 u31 u32 u33 u34 u35 u36 u37 u38 u39 u40 u41 u42 u43 u44 u45 u46 u47 u48 u49 u50 u51 u52 u53 u54 u55 u56 u57 u58 u59 u60 u61 u62 u63 u64 u65 u66 u67 u68 u69 u70 u71 u72 u73 u74 u75 u76 u77 u78 u79 u80 u81 u82 u83 u84 u85 u86 u87 u88 u89 u90 u91 u92 u93 u94 u95 u96 u97 u98 u99 u100 u101 u102 u103 u104 u105 u106 u107 u108 u109 u110 u111 u112 u113 u114 u115 u116 u117 u118 u119 u120 u121 u122 u123 u124 u125 u126 u127 u128 u129 u130 u131 u132 u133 u134 u135 u136 u137 u138 u139 u140 u141 u142 u143 u144 u145 u146 u147 u148 u149 u150 u151 u152 u153 u154 u155 u156 u157 u158 u159 u160 u161 u162 u163 u164 u165 u166 u167 u168 u169 u170 u171 u172 u173 u174 u175 u176 u177 u178 u179 u180 u181 u182 u183 u184 u185 u186 u187 u188 u189 u190 u191 u192 u193 u194 u195 u196 u197 u198 u199 u200 u201 u202 u203 u204 u205 u206 u207 u208 u209 u210 u211 u212 u213 u214 u215 u216 u217 u218 u219 u220 u221 u222 u223 u224 u225 u226 u227 : Value)
    (hA : (FW fb mb rb tb sb P len qb cp cn e0 v N wb D L far left a sa fa sz x fl hs b hf B w0 wS w1 m rw at1 O Z Y ∧ w1.heap[db]? = some (.cells #[.int .u32 sz, .int .u32 (if m = 0 then x else fl), .bool hs, .bool (if m = 0 then b else hf)] 109 (0, 0)) ∧ w1.heap[eb]? = some (.cells #[.int .i64 e0, .int .i64 cn, .int .i64 v] 153 (0, 0))))
    (hN : N ≤ wb) (hNdb : N ≤ db) (hmb : m < cn) (hcn : cn ≤ 65536) (hv : v ≤ 16) (hv1 : 0 < v) (hen : e0 + cn * v ≤ len) (hlen : len ≤ 1048576) (hsa : 0 ≤ sa → sa + 4 ≤ v) (hfa : 0 ≤ fa → fa + 4 ≤ v) (hB : Byte B)
    (hK : ∀ (z4 z5 z12 z13 z113 z114 z115 z116 z117 z118 z119 z120 z121 z122 z123 z124 z125 z126 z127 z128 z129 z130 z131 z132 z133 z134 z135 z136 z137 z138 z139 z140 z141 z142 z143 z144 z145 z146 z147 z148 z149 z150 z151 z152 z153 z154 z155 z156 z157 z158 z159 z160 z161 z162 z163 z164 z165 z166 z167 z168 z169 z170 z171 z172 z173 : Value) (w' : World), (FW fb mb rb tb sb P len qb cp cn e0 v N wb D L far left a sa fa sz x fl hs b hf B w0 wS w' m rw at1 O Z Y ∧ (∃ y1 y2, w'.heap[db]? = some (.cells #[.int .u32 ((szOf B e0 v sa sz) m), .int .u32 ((fgOf B e0 v fa x fl) m), y1, y2] 109 (0, 0))) ∧ w'.heap[eb]? = some (.cells #[.int .i64 e0, .int .i64 cn, .int .i64 v] 153 (0, 0))) → K ⟨#[.pointer (some ⟨wb, 0, none⟩), .slice (some ⟨D, 0, none⟩) L L, u2, u3, z4, z5, .pointer (some ⟨wb, 1, none⟩), .pointer (some ⟨qb, 0, none⟩), .pointer (some ⟨eb, 0, none⟩), .int .i64 n, .int .i64 k, .pointer (some ⟨db, 0, none⟩), z12, z13, u14, u15, u16, u17, u18, u19, u20, u21, u22, u23, u24, u25, u26, u27, u28, u29, u30, u31, u32, u33, u34, u35, u36, u37, u38, u39, u40, u41, u42, u43, u44, u45, u46, u47, u48, u49, u50, u51, u52, u53, u54, u55, u56, u57, u58, u59, u60, u61, u62, u63, u64, u65, u66, u67, u68, u69, u70, u71, u72, u73, u74, u75, u76, u77, u78, u79, u80, u81, u82, u83, u84, u85, u86, u87, u88, u89, u90, u91, u92, u93, u94, u95, u96, u97, u98, u99, u100, u101, u102, u103, u104, u105, u106, u107, u108, u109, u110, u111, u112, z113, z114, z115, z116, z117, z118, z119, z120, z121, z122, z123, z124, z125, z126, z127, z128, z129, z130, z131, z132, z133, z134, z135, z136, z137, z138, z139, z140, z141, z142, z143, z144, z145, z146, z147, z148, z149, z150, z151, z152, z153, z154, z155, z156, z157, z158, z159, z160, z161, z162, z163, z164, z165, z166, z167, z168, z169, z170, z171, z172, z173, u174, u175, u176, u177, u178, u179, u180, u181, u182, u183, u184, u185, u186, u187, u188, u189, u190, u191, u192, u193, u194, u195, u196, u197, u198, u199, u200, u201, u202, u203, u204, u205, u206, u207, u208, u209, u210, u211, u212, u213, u214, u215, u216, u217, u218, u219, u220, u221, u222, u223, u224, u225, u226, u227], []⟩ w') :
    Code.wp Tryf.prog ((Tryf.f51.body.bind (thenOf 112)).getD .skip) (Exit.then K (bodyPost Tryf.prog Tryf.f51 post)) ⟨#[.pointer (some ⟨wb, 0, none⟩), .slice (some ⟨D, 0, none⟩) L L, u2, u3, u4, u5, .pointer (some ⟨wb, 1, none⟩), .pointer (some ⟨qb, 0, none⟩), .pointer (some ⟨eb, 0, none⟩), .int .i64 n, .int .i64 k, .pointer (some ⟨db, 0, none⟩), u12, u13, u14, u15, u16, u17, u18, u19, u20, u21, u22, u23, u24, u25, u26, u27, u28, u29, u30, u31, u32, u33, u34, u35, u36, u37, u38, u39, u40, u41, u42, u43, u44, u45, u46, u47, u48, u49, u50, u51, u52, u53, u54, u55, u56, u57, u58, u59, u60, u61, u62, u63, u64, u65, u66, u67, u68, u69, u70, u71, u72, u73, u74, u75, u76, u77, u78, u79, u80, u81, u82, u83, u84, u85, u86, u87, u88, u89, u90, u91, u92, u93, u94, u95, u96, u97, u98, u99, u100, u101, u102, u103, u104, u105, u106, u107, u108, u109, u110, u111, u112, u113, u114, u115, u116, u117, u118, u119, u120, u121, u122, u123, u124, u125, u126, u127, u128, u129, u130, u131, u132, u133, u134, u135, u136, u137, u138, u139, u140, u141, u142, u143, u144, u145, u146, u147, u148, u149, u150, u151, u152, u153, u154, u155, u156, u157, u158, u159, u160, u161, u162, u163, u164, u165, u166, u167, u168, u169, u170, u171, u172, u173, u174, u175, u176, u177, u178, u179, u180, u181, u182, u183, u184, u185, u186, u187, u188, u189, u190, u191, u192, u193, u194, u195, u196, u197, u198, u199, u200, u201, u202, u203, u204, u205, u206, u207, u208, u209, u210, u211, u212, u213, u214, u215, u216, u217, u218, u219, u220, u221, u222, u223, u224, u225, u226, u227], []⟩ w1 := by
  have HA : Hid (FW fb mb rb tb sb P len qb cp cn e0 v N wb D L far left a sa fa sz x fl hs b hf B w0 wS w1 m rw at1 O Z Y ∧ w1.heap[db]? = some (.cells #[.int .u32 sz, .int .u32 (if m = 0 then x else fl), .bool hs, .bool (if m = 0 then b else hf)] 109 (0, 0)) ∧ w1.heap[eb]? = some (.cells #[.int .i64 e0, .int .i64 cn, .int .i64 v] 153 (0, 0))) := hA
  have HK : Hid (∀ (z4 z5 z12 z13 z113 z114 z115 z116 z117 z118 z119 z120 z121 z122 z123 z124 z125 z126 z127 z128 z129 z130 z131 z132 z133 z134 z135 z136 z137 z138 z139 z140 z141 z142 z143 z144 z145 z146 z147 z148 z149 z150 z151 z152 z153 z154 z155 z156 z157 z158 z159 z160 z161 z162 z163 z164 z165 z166 z167 z168 z169 z170 z171 z172 z173 : Value) (w' : World), (FW fb mb rb tb sb P len qb cp cn e0 v N wb D L far left a sa fa sz x fl hs b hf B w0 wS w' m rw at1 O Z Y ∧ (∃ y1 y2, w'.heap[db]? = some (.cells #[.int .u32 ((szOf B e0 v sa sz) m), .int .u32 ((fgOf B e0 v fa x fl) m), y1, y2] 109 (0, 0))) ∧ w'.heap[eb]? = some (.cells #[.int .i64 e0, .int .i64 cn, .int .i64 v] 153 (0, 0))) → K ⟨#[.pointer (some ⟨wb, 0, none⟩), .slice (some ⟨D, 0, none⟩) L L, u2, u3, z4, z5, .pointer (some ⟨wb, 1, none⟩), .pointer (some ⟨qb, 0, none⟩), .pointer (some ⟨eb, 0, none⟩), .int .i64 n, .int .i64 k, .pointer (some ⟨db, 0, none⟩), z12, z13, u14, u15, u16, u17, u18, u19, u20, u21, u22, u23, u24, u25, u26, u27, u28, u29, u30, u31, u32, u33, u34, u35, u36, u37, u38, u39, u40, u41, u42, u43, u44, u45, u46, u47, u48, u49, u50, u51, u52, u53, u54, u55, u56, u57, u58, u59, u60, u61, u62, u63, u64, u65, u66, u67, u68, u69, u70, u71, u72, u73, u74, u75, u76, u77, u78, u79, u80, u81, u82, u83, u84, u85, u86, u87, u88, u89, u90, u91, u92, u93, u94, u95, u96, u97, u98, u99, u100, u101, u102, u103, u104, u105, u106, u107, u108, u109, u110, u111, u112, z113, z114, z115, z116, z117, z118, z119, z120, z121, z122, z123, z124, z125, z126, z127, z128, z129, z130, z131, z132, z133, z134, z135, z136, z137, z138, z139, z140, z141, z142, z143, z144, z145, z146, z147, z148, z149, z150, z151, z152, z153, z154, z155, z156, z157, z158, z159, z160, z161, z162, z163, z164, z165, z166, z167, z168, z169, z170, z171, z172, z173, u174, u175, u176, u177, u178, u179, u180, u181, u182, u183, u184, u185, u186, u187, u188, u189, u190, u191, u192, u193, u194, u195, u196, u197, u198, u199, u200, u201, u202, u203, u204, u205, u206, u207, u208, u209, u210, u211, u212, u213, u214, u215, u216, u217, u218, u219, u220, u221, u222, u223, u224, u225, u226, u227], []⟩ w') := hK
  have HBy : Hid (Byte B) := hB
  have HSF : Hid ((0 ≤ sa → sa + 4 ≤ v) ∧ (0 ≤ fa → fa + 4 ≤ v) ∧ e0 + cn * v ≤ len) := ⟨hsa, hfa, hen⟩
  have wz : w1.cell? ⟨wb, 13, none⟩ = some (.int .i64 m) := hA.1.c13
  have w00 : w1.cell? ⟨wb, 0, none⟩ = some (.pointer (some ⟨sb, 0, none⟩)) := hA.1.c0
  have s0 : w1.cell? ⟨sb, 0, none⟩ = some (.iface 90 (.pointer (some ⟨rb, 0, none⟩))) := by simp [World.cell?, hA.1.rt.sbh]
  have e_0 : w1.cell? ⟨eb, 0, none⟩ = some (.int .i64 e0) := by simp [World.cell?, hA.2.2]
  have e_1 : w1.cell? ⟨eb, 1, none⟩ = some (.int .i64 cn) := by simp [World.cell?, hA.2.2]
  have e_2 : w1.cell? ⟨eb, 2, none⟩ = some (.int .i64 v) := by simp [World.cell?, hA.2.2]
  have hq := fun w a n c => Lib.run_eql_slice_nil (P := Tryf.prog) w 22 _ a n c 0 0 Tryf.underlying22
  have HCu := hA.1.cur
  have HDr : Hid (∀ nd, (FW fb mb rb tb sb P len qb cp cn e0 v N wb D L far left a sa fa sz x fl hs b hf B w0 wS (w1.drewN nd) m rw at1 O Z Y ∧ (w1.drewN nd).heap[db]? = some (.cells #[.int .u32 sz, .int .u32 (if m = 0 then x else fl), .bool hs, .bool (if m = 0 then b else hf)] 109 (0, 0)) ∧ (w1.drewN nd).heap[eb]? = some (.cells #[.int .i64 e0, .int .i64 cn, .int .i64 v] 153 (0, 0)))) := fun nd => ⟨hA.1.own (below_drewN (Below.refl _ _) nd) (fun j c t f h _ _ => h), hA.2.1, hA.2.2⟩
  clear hA hK hB hsa hfa hen
  conv => arg 2; whnf
  conv => arg 4; zeta
  refine wp_seq_k fun KE hKE => ?_
  go_cut [12] from 113 to 120 (fun e wx => Hid (FW fb mb rb tb sb P len qb cp cn e0 v N wb D L far left a sa fa sz x fl hs b hf B w0 wS wx m rw at1 O Z Y ∧ wx.heap[db]? = some (.cells #[.int .u32 sz, .int .u32 (if m = 0 then x else fl), .bool hs, .bool (if m = 0 then b else hf)] 109 (0, 0)) ∧ wx.heap[eb]? = some (.cells #[.int .i64 e0, .int .i64 cn, .int .i64 v] 153 (0, 0))) ∧ ((e = .slice none 0 0 ∧ Hid (wx.cell? ⟨wb, 31, none⟩ = some (.slice none 0 0) ∨ ∃ (Q c f g l : Nat) (Z' : Nat → Int), wx.cell? ⟨wb, 31, none⟩ = some (.slice (some ⟨Q, 0, none⟩) l c) ∧ c ≤ 4096 ∧ Row wx Q c Z' ∧ Q ≠ P ∧ N ≤ Q ∧ f ≤ m ∧ min (4096 / v) (cn - f) * v ≤ c)) ∨ ∃ (Q z c : Nat), e = .slice (some ⟨Q, z, none⟩) v c ∧ v ≤ c ∧ c ≤ 4096 ∧ Hid (Bytes wx Q z v (fun j => B (e0 + m * v + j)))))
  case first =>
    have HC2 : Hid ((w1.cell? ⟨wb, 31, none⟩ = some (.slice none 0 0) ∧ w1.cell? ⟨wb, 33, none⟩ = some (.int .i64 0) ∧ w1.cell? ⟨wb, 34, none⟩ = some (.int .i64 0)) ∨ (∃ (Q c f g l : Nat) (Z' : Nat → Int), w1.cell? ⟨wb, 31, none⟩ = some (.slice (some ⟨Q, 0, none⟩) l c) ∧ c ≤ 4096 ∧ Row w1 Q c Z' ∧ Q ≠ P ∧ N ≤ Q ∧ f ≤ m ∧ min (4096 / v) (cn - f) * v ≤ c ∧ w1.cell? ⟨wb, 33, none⟩ = some (.int .i64 f) ∧ w1.cell? ⟨wb, 34, none⟩ = some (.int .i64 g) ∧ g ≤ m - f) ∨ ∃ (Q c f g l j0 z : Nat), w1.cell? ⟨wb, 31, none⟩ = some (.slice (some ⟨Q, 0, none⟩) l c) ∧ w1.cell? ⟨wb, 32, none⟩ = some (.int .i64 e0) ∧ w1.cell? ⟨wb, 33, none⟩ = some (.int .i64 f) ∧ w1.cell? ⟨wb, 34, none⟩ = some (.int .i64 g) ∧ m = f + j0 ∧ j0 < g ∧ z = j0 * v ∧ g * v = l ∧ l ≤ c ∧ z + v ≤ c ∧ c ≤ 4096 ∧ Bytes w1 Q z v (fun j => B (e0 + m * v + j))) := by
      rcases HCu with ⟨e1, e2, e3⟩ | ⟨Q, c, f, g, l, Z', e1, e2, e3, e4, e5, e6, e7, e8, e9, e10, e11, e12, e13⟩
      · exact .inl ⟨e1, e2, e3⟩
      · by_cases hin : m - f < g
        · obtain ⟨j0, hj0⟩ : ∃ j0, m = f + j0 := ⟨m - f, by omega⟩
          have hzl : j0 * v + v ≤ l := by
            have := Nat.mul_le_mul_right v (show j0 + 1 ≤ g by omega)
            rw [Nat.add_mul] at this
            omega
          refine .inr (.inr ⟨Q, c, f, g, l, j0, j0 * v, e1, e2, e3, e4, hj0, by omega, rfl, e5.symm, e6, by omega, e7, fun j hj => ?_⟩)
          have := e8.bytes (j0 * v + j) (by omega)
          rw [Nat.zero_add, e12 (j0 * v + j) (by omega)] at this
          rw [this]
          have hx : e0 + f * v + (j0 * v + j) = e0 + m * v + j := by rw [hj0, Nat.add_mul]; omega
          rw [hx]
        · exact .inr (.inl ⟨Q, c, f, g, l, Z', e1, e7, e8, e9, e10, e11, e13, e3, e4, by omega⟩)
    clear HCu
    obtain HC3 | HC3 | HC3 : Hid (w1.cell? ⟨wb, 31, none⟩ = some (.slice none 0 0) ∧ w1.cell? ⟨wb, 33, none⟩ = some (.int .i64 0) ∧ w1.cell? ⟨wb, 34, none⟩ = some (.int .i64 0)) ∨ Hid (∃ (Q c f g l : Nat) (Z' : Nat → Int), w1.cell? ⟨wb, 31, none⟩ = some (.slice (some ⟨Q, 0, none⟩) l c) ∧ c ≤ 4096 ∧ Row w1 Q c Z' ∧ Q ≠ P ∧ N ≤ Q ∧ f ≤ m ∧ min (4096 / v) (cn - f) * v ≤ c ∧ w1.cell? ⟨wb, 33, none⟩ = some (.int .i64 f) ∧ w1.cell? ⟨wb, 34, none⟩ = some (.int .i64 g) ∧ g ≤ m - f) ∨ Hid (∃ (Q c f g l j0 z : Nat), w1.cell? ⟨wb, 31, none⟩ = some (.slice (some ⟨Q, 0, none⟩) l c) ∧ w1.cell? ⟨wb, 32, none⟩ = some (.int .i64 e0) ∧ w1.cell? ⟨wb, 33, none⟩ = some (.int .i64 f) ∧ w1.cell? ⟨wb, 34, none⟩ = some (.int .i64 g) ∧ m = f + j0 ∧ j0 < g ∧ z = j0 * v ∧ g * v = l ∧ l ≤ c ∧ z + v ≤ c ∧ c ≤ 4096 ∧ Bytes w1 Q z v (fun j => B (e0 + m * v + j))) := HC2.out
    · clear HC2
      have hm6 : m ≤ 65536 := by omega
      go_quiet ((go_at_call 61; exact Calls.quiet_of (held_none wb eb m 0 0 _ HC3.out.2.1 HC3.out.2.2 (Nat.zero_le _) (Nat.zero_le _) hm6)))
      go_wp2
      go_meet
      exact ⟨HDr.out _, .inl ⟨rfl, .inl HC3.out.1⟩⟩
    · clear HC2
      have hm6 : m ≤ 65536 := by omega
      obtain ⟨Q, c, f, g, l, Z', HC4⟩ : ∃ (Q c f g l : Nat) (Z' : Nat → Int), Hid (w1.cell? ⟨wb, 31, none⟩ = some (.slice (some ⟨Q, 0, none⟩) l c) ∧ c ≤ 4096 ∧ Row w1 Q c Z' ∧ Q ≠ P ∧ N ≤ Q ∧ f ≤ m ∧ min (4096 / v) (cn - f) * v ≤ c ∧ w1.cell? ⟨wb, 33, none⟩ = some (.int .i64 f) ∧ w1.cell? ⟨wb, 34, none⟩ = some (.int .i64 g) ∧ g ≤ m - f) := HC3.out
      clear HC3
      go_quiet ((go_at_call 61; exact Calls.quiet_of (held_none wb eb m f g _ HC4.out.2.2.2.2.2.2.2.1 HC4.out.2.2.2.2.2.2.2.2.1 HC4.out.2.2.2.2.2.1 HC4.out.2.2.2.2.2.2.2.2.2 hm6)))
      go_wp2
      go_meet
      obtain ⟨e1, e7, e8, e9, e10, e11, e13, _⟩ := HC4.out
      exact ⟨HDr.out _, .inl ⟨rfl, .inr ⟨Q, c, f, g, l, Z', e1, e7, e8, e9, e10, e11, e13⟩⟩⟩
    · clear HC2
      have hm6 : m ≤ 65536 := by omega
      obtain ⟨Q, c, f, g, l, j0, z, HC4⟩ : ∃ (Q c f g l j0 z : Nat), Hid (w1.cell? ⟨wb, 31, none⟩ = some (.slice (some ⟨Q, 0, none⟩) l c) ∧ w1.cell? ⟨wb, 32, none⟩ = some (.int .i64 e0) ∧ w1.cell? ⟨wb, 33, none⟩ = some (.int .i64 f) ∧ w1.cell? ⟨wb, 34, none⟩ = some (.int .i64 g) ∧ m = f + j0 ∧ j0 < g ∧ z = j0 * v ∧ g * v = l ∧ l ≤ c ∧ z + v ≤ c ∧ c ≤ 4096 ∧ Bytes w1 Q z v (fun j => B (e0 + m * v + j))) := HC3.out
      clear HC3
      go_quiet ((go_at_call 61; exact Calls.quiet_of (held_some wb eb m f g Q l c v j0 z e0 _ HC4.out.1 HC4.out.2.1 HC4.out.2.2.1 HC4.out.2.2.2.1 e_0 e_2 HC4.out.2.2.2.2.1 HC4.out.2.2.2.2.2.1 hm6 hv hv1 HC4.out.2.2.2.2.2.2.1 HC4.out.2.2.2.2.2.2.2.1 HC4.out.2.2.2.2.2.2.2.2.1)))
      go_wp2
      go_meet
      obtain ⟨_, _, _, _, _, _, _, _, _, h1, h2, h3⟩ := HC4.out
      exact ⟨HDr.out _, .inr ⟨Q, z, c - z, rfl, by clear HC4; omega, by clear HC4; omega, h3⟩⟩
  case rest =>
    obtain ⟨w2, hw2⟩ : ∃ w2, w2 = wc := ⟨_, rfl⟩
    subst hw2
    obtain ⟨HA2, hcase⟩ := hcut
    clear HCu HDr HA wz w00 s0 e_0 e_1 e_2
    have wz : w2.cell? ⟨wb, 13, none⟩ = some (.int .i64 m) := HA2.out.1.c13
    have w00 : w2.cell? ⟨wb, 0, none⟩ = some (.pointer (some ⟨sb, 0, none⟩)) := HA2.out.1.c0
    have s0 : w2.cell? ⟨sb, 0, none⟩ = some (.iface 90 (.pointer (some ⟨rb, 0, none⟩))) := by simp [World.cell?, HA2.out.1.rt.sbh]
    have e_0 : w2.cell? ⟨eb, 0, none⟩ = some (.int .i64 e0) := by simp [World.cell?, HA2.out.2.2]
    have e_1 : w2.cell? ⟨eb, 1, none⟩ = some (.int .i64 cn) := by simp [World.cell?, HA2.out.2.2]
    have e_2 : w2.cell? ⟨eb, 2, none⟩ = some (.int .i64 v) := by simp [World.cell?, HA2.out.2.2]
    refine hKE _ _ ?_
    refine wp_seq_k fun KF hKF => ?_
    go_cut [12, 13] from 121 to 145 (fun e _ wx => (∃ (Q z c : Nat), e = .slice (some ⟨Q, z, none⟩) v c ∧ v ≤ c ∧ c ≤ 4096 ∧ Hid (Bytes wx Q z v (fun j => B (e0 + m * v + j)) ∧ (FW fb mb rb tb sb P len qb cp cn e0 v N wb D L far left a sa fa sz x fl hs b hf B w0 wS wx m rw at1 O Z Y ∧ wx.heap[db]? = some (.cells #[.int .u32 sz, .int .u32 (if m = 0 then x else fl), .bool hs, .bool (if m = 0 then b else hf)] 109 (0, 0)) ∧ wx.heap[eb]? = some (.cells #[.int .i64 e0, .int .i64 cn, .int .i64 v] 153 (0, 0))))))
    case first =>
      obtain ⟨g, S, HG⟩ : ∃ g S, Hid (g = min (4096 / v) (cn - m) ∧ S = g * v) := ⟨_, _, rfl, rfl⟩
      have hNw : N ≤ w2.heap.size := Nat.le_trans hN (Nat.le_of_lt (lt_of_cell wz))
      have HQ2 : Hid (∀ (w3 : World) (Q c : Nat) (Z' : Nat → Int), N ≤ Q → Q ≠ P → (∀ (c : Array Value) (t : TypeId) (f : Nat × Nat), w2.heap[Q]? = some (.cells c t f) → t = 5) → Rd w2 w3 wb Q c e0 m g S Z' → (∀ j, j < S → Z' j = B (e0 + m * v + j)) → c ≤ 4096 → S ≤ c → Bytes w3 Q 0 v (fun j => B (e0 + m * v + j)) ∧ v ≤ c ∧ (FW fb mb rb tb sb P len qb cp cn e0 v N wb D L far left a sa fa sz x fl hs b hf B w0 wS w3 m rw at1 O Z Y ∧ w3.heap[db]? = some (.cells #[.int .u32 sz, .int .u32 (if m = 0 then x else fl), .bool hs, .bool (if m = 0 then b else hf)] 109 (0, 0)) ∧ w3.heap[eb]? = some (.cells #[.int .i64 e0, .int .i64 cn, .int .i64 v] 153 (0, 0)))) := by
        obtain ⟨eg, eS⟩ := HG.out
        subst eS
        subst eg
        intro w3 Q c Z' h1 h2 h3 h4 h5 h6 h7
        obtain ⟨cw, k1, k2⟩ := HA2.out.1.wk
        have hq1 : 1 ≤ min (4096 / v) (cn - m) := by
          have : 256 ≤ 4096 / v := (Nat.le_div_iff_mul_le hv1).2 (by omega)
          omega
        have hvS : v ≤ min (4096 / v) (cn - m) * v := by
          have := Nat.mul_le_mul_right v hq1
          omega
        have own : ∀ (j : Nat) (cc : Array Value) (t : TypeId) (f : Nat × Nat), w2.heap[j]? = some (.cells cc t f) → t ≠ 138 → t ≠ 5 → w3.heap[j]? = some (.cells cc t f) := fun j cc t f g1 g2 g3 => by
          refine (h4.same j (lt_of_block g1) ?_ ?_).trans g1
          · rintro rfl
            rw [k1] at g1
            simp only [Option.some.injEq, Obj.cells.injEq] at g1
            exact g2 g1.2.1.symm
          · rintro rfl
            exact g3 (h3 _ _ _ g1)
        refine ⟨fun j hj => ?_, by omega, HA2.out.1.read hN h1 hNw h2 h3 h4 h5 h6 h7, own _ _ _ _ HA2.out.2.1 (by decide) (by decide), own _ _ _ _ HA2.out.2.2 (by decide) (by decide)⟩
        have := h4.row.bytes j (by omega)
        rw [h5 j (by omega)] at this
        exact this
      have HS4 : Hid (S ≤ 4096) := by
        show S ≤ 4096
        rw [HG.out.2, HG.out.1]
        exact chunk_le hv1 hv
      have HKp : Hid (∀ (w3 : World) (Q c : Nat) (Z' : Nat → Int), N ≤ Q → (∀ (c : Array Value) (t : TypeId) (f : Nat × Nat), w2.heap[Q]? = some (.cells c t f) → t = 5) → Rd w2 w3 wb Q c e0 m g S Z' → w3.cell? ⟨wb, 0, none⟩ = some (.pointer (some ⟨sb, 0, none⟩)) ∧ w3.cell? ⟨sb, 0, none⟩ = some (.iface 90 (.pointer (some ⟨rb, 0, none⟩))) ∧ w3.cell? ⟨eb, 0, none⟩ = some (.int .i64 e0) ∧ w3.cell? ⟨eb, 1, none⟩ = some (.int .i64 cn) ∧ w3.cell? ⟨eb, 2, none⟩ = some (.int .i64 v) ∧ w3.cell? ⟨wb, 13, none⟩ = some (.int .i64 m)) := by
        intro w3 Q c Z' h1 h3 h4
        obtain ⟨cw, k1, k2⟩ := HA2.out.1.wk
        have own : ∀ (j : Nat) (cc : Array Value) (t : TypeId) (f : Nat × Nat), w2.heap[j]? = some (.cells cc t f) → t ≠ 138 → t ≠ 5 → w3.heap[j]? = some (.cells cc t f) := fun j cc t f g1 g2 g3 => by
          refine (h4.same j (lt_of_block g1) ?_ ?_).trans g1
          · rintro rfl
            rw [k1] at g1
            simp only [Option.some.injEq, Obj.cells.injEq] at g1
            exact g2 g1.2.1.symm
          · rintro rfl
            exact g3 (h3 _ _ _ g1)
        have hsb := own _ _ _ _ HA2.out.1.rt.sbh (by decide) (by decide)
        have heb := own _ _ _ _ HA2.out.2.2 (by decide) (by decide)
        exact ⟨(h4.rest 0 (by decide)).trans w00, by simp [World.cell?, hsb], by simp [World.cell?, heb], by simp [World.cell?, heb], by simp [World.cell?, heb], (h4.rest 13 (by decide)).trans wz⟩
      rcases hcase with ⟨rfl, hc⟩ | ⟨Q, z, c, rfl, hvc, hc4, hbs⟩
      · obtain hc1 | hc1 : Hid (w2.cell? ⟨wb, 31, none⟩ = some (.slice none 0 0)) ∨ Hid (∃ (Q c f g l : Nat) (Z' : Nat → Int), w2.cell? ⟨wb, 31, none⟩ = some (.slice (some ⟨Q, 0, none⟩) l c) ∧ c ≤ 4096 ∧ Row w2 Q c Z' ∧ Q ≠ P ∧ N ≤ Q ∧ f ≤ m ∧ min (4096 / v) (cn - f) * v ≤ c) := hc.out
        · clear hc
          go_upto_region 17 with fail
          refine wp_region_held_drew (S := (fun w' => w'.cell? ⟨wb, 0, none⟩ = some (.pointer (some ⟨sb, 0, none⟩)) ∧ w'.cell? ⟨sb, 0, none⟩ = some (.iface 90 (.pointer (some ⟨rb, 0, none⟩))) ∧ w'.cell? ⟨eb, 0, none⟩ = some (.int .i64 e0) ∧ w'.cell? ⟨eb, 1, none⟩ = some (.int .i64 cn) ∧ w'.cell? ⟨eb, 2, none⟩ = some (.int .i64 v) ∧ w'.cell? ⟨wb, 13, none⟩ = some (.int .i64 m))) (by kernel_rfl) ?_ (fun hHeld => ?_)
          · exact ⟨w00, s0, e_0, e_1, e_2, wz⟩
          refine wpAnyH_take (i := 0) (v := ?vp0) rfl (by kernel_rfl) (by kernel_rfl) (by kernel_rfl) (fun _ _ _ h => h) (Or.inl ⟨by rfl, ?hyp0⟩) (by assumption) ?restp0
          case hyp0 =>
            intro w hSw
            (try dsimp only at hSw)
            go_simp
            try with_reducible rfl
          simp only [Act.put, List.setIfInBounds_toArray, List.set_cons_zero, List.set_cons_succ, List.getElem_toArray, List.getElem_cons_zero, List.getElem_cons_succ]
          refine wpAnyH_take (i := 1) (v := ?vp1) rfl (by kernel_rfl) (by kernel_rfl) (by kernel_rfl) (fun _ _ _ h => h) (Or.inl ⟨by rfl, ?hyp1⟩) (by assumption) ?restp1
          case hyp1 =>
            intro w hSw
            (try dsimp only at hSw)
            go_simp
            try with_reducible rfl
          simp only [Act.put, List.setIfInBounds_toArray, List.set_cons_zero, List.set_cons_succ, List.getElem_toArray, List.getElem_cons_zero, List.getElem_cons_succ]
          refine wpAnyH_take (i := 2) (v := ?vp2) rfl (by kernel_rfl) (by kernel_rfl) (by kernel_rfl) (fun _ _ _ h => h) (Or.inl ⟨by rfl, ?hyp2⟩) (by assumption) ?restp2
          case hyp2 =>
            intro w hSw
            (try dsimp only at hSw)
            go_simp
            try with_reducible rfl
          simp only [Act.put, List.setIfInBounds_toArray, List.set_cons_zero, List.set_cons_succ, List.getElem_toArray, List.getElem_cons_zero, List.getElem_cons_succ]
          refine wpAnyH_take (i := 3) (v := ?vp3) rfl (by kernel_rfl) (by kernel_rfl) (by kernel_rfl) (fun _ _ _ h => h) (Or.inl ⟨by rfl, ?hyp3⟩) (by assumption) ?restp3
          case hyp3 =>
            intro w hSw
            (try dsimp only at hSw)
            go_simp
            try with_reducible rfl
          simp only [Act.put, List.setIfInBounds_toArray, List.set_cons_zero, List.set_cons_succ, List.getElem_toArray, List.getElem_cons_zero, List.getElem_cons_succ]
          refine wpAnyH_take (i := 4) (v := ?vp4) rfl (by kernel_rfl) (by kernel_rfl) (by kernel_rfl) (fun _ _ _ h => h) (Or.inl ⟨by rfl, ?hyp4⟩) (by assumption) ?restp4
          case hyp4 =>
            intro w hSw
            (try dsimp only at hSw)
            go_simp
            try with_reducible rfl
          simp only [Act.put, List.setIfInBounds_toArray, List.set_cons_zero, List.set_cons_succ, List.getElem_toArray, List.getElem_cons_zero, List.getElem_cons_succ]
          refine wpAnyH_take (i := 5) (v := ?vp5) rfl (by kernel_rfl) (by kernel_rfl) (by kernel_rfl) (fun _ _ _ h => h) (Or.inl ⟨by rfl, ?hyp5⟩) (by assumption) ?restp5
          case hyp5 =>
            intro w hSw
            (try dsimp only at hSw)
            go_simp
            try with_reducible rfl
          simp only [Act.put, List.setIfInBounds_toArray, List.set_cons_zero, List.set_cons_succ, List.getElem_toArray, List.getElem_cons_zero, List.getElem_cons_succ]
          refine wpAnyH_take (i := 6) (v := ?vp6) rfl (by kernel_rfl) (by kernel_rfl) (by kernel_rfl) (fun _ _ _ h => h) (Or.inl ⟨by rfl, ?hyp6⟩) (by assumption) ?restp6
          case hyp6 =>
            intro w hSw
            (try dsimp only at hSw)
            go_simp
            try with_reducible rfl
          simp only [Act.put, List.setIfInBounds_toArray, List.set_cons_zero, List.set_cons_succ, List.getElem_toArray, List.getElem_cons_zero, List.getElem_cons_succ]
          refine wpAnyH_take (i := 7) (v := ?vp7) rfl (by kernel_rfl) (by kernel_rfl) (by kernel_rfl) (fun _ _ _ h => h) (Or.inl ⟨by rfl, ?hyp7⟩) (by assumption) ?restp7
          case hyp7 =>
            intro w hSw
            (try dsimp only at hSw)
            go_simp
            try with_reducible rfl
          simp only [Act.put, List.setIfInBounds_toArray, List.set_cons_zero, List.set_cons_succ, List.getElem_toArray, List.getElem_cons_zero, List.getElem_cons_succ]
          refine wpAnyH_take (i := 8) (v := ?vp8) rfl (by kernel_rfl) (by kernel_rfl) (by kernel_rfl) (fun _ _ _ h => h) (Or.inl ⟨by rfl, ?hyp8⟩) (by assumption) ?restp8
          case hyp8 =>
            intro w hSw
            (try dsimp only at hSw)
            go_simp
            try with_reducible rfl
          simp only [Act.put, List.setIfInBounds_toArray, List.set_cons_zero, List.set_cons_succ, List.getElem_toArray, List.getElem_cons_zero, List.getElem_cons_succ]
          refine wpAnyH_take (i := 9) (v := ?vp9) rfl (by kernel_rfl) (by kernel_rfl) (by kernel_rfl) (fun _ _ _ h => h) (Or.inl ⟨by rfl, ?hyp9⟩) (by assumption) ?restp9
          case hyp9 =>
            intro w hSw
            (try dsimp only at hSw)
            go_simp
            try with_reducible rfl
          simp only [Act.put, List.setIfInBounds_toArray, List.set_cons_zero, List.set_cons_succ, List.getElem_toArray, List.getElem_cons_zero, List.getElem_cons_succ]
          refine wpAnyH_take (i := 10) (v := ?vp10) rfl (by kernel_rfl) (by kernel_rfl) (by kernel_rfl) (fun _ _ _ h => h) (Or.inl ⟨by rfl, ?hyp10⟩) (by assumption) ?restp10
          case hyp10 =>
            intro w hSw
            (try dsimp only at hSw)
            go_simp
            try with_reducible rfl
          simp only [Act.put, List.setIfInBounds_toArray, List.set_cons_zero, List.set_cons_succ, List.getElem_toArray, List.getElem_cons_zero, List.getElem_cons_succ]
          refine wpAnyH_take (i := 11) (v := ?vp11) rfl (by kernel_rfl) (by kernel_rfl) (by kernel_rfl) (fun _ _ _ h => h) (Or.inl ⟨by rfl, ?hyp11⟩) (by assumption) ?restp11
          case hyp11 =>
            intro w hSw
            (try dsimp only at hSw)
            go_simp
            try with_reducible rfl
          simp only [Act.put, List.setIfInBounds_toArray, List.set_cons_zero, List.set_cons_succ, List.getElem_toArray, List.getElem_cons_zero, List.getElem_cons_succ]
          refine wpAnyH_take (i := 12) (v := ?vp12) rfl (by kernel_rfl) (by kernel_rfl) (by kernel_rfl) (fun _ _ _ h => h) (Or.inl ⟨by rfl, ?hyp12⟩) (by assumption) ?restp12
          case hyp12 =>
            intro w hSw
            (try dsimp only at hSw)
            go_simp
            try with_reducible rfl
          simp only [Act.put, List.setIfInBounds_toArray, List.set_cons_zero, List.set_cons_succ, List.getElem_toArray, List.getElem_cons_zero, List.getElem_cons_succ]
          refine wpAnyH_take (i := 13) (v := ?vp13) rfl (by kernel_rfl) (by kernel_rfl) (by kernel_rfl) (fun _ _ _ h => h) (Or.inl ⟨by rfl, ?hyp13⟩) (by assumption) ?restp13
          case hyp13 =>
            intro w hSw
            (try dsimp only at hSw)
            go_simp
            try with_reducible rfl
          simp only [Act.put, List.setIfInBounds_toArray, List.set_cons_zero, List.set_cons_succ, List.getElem_toArray, List.getElem_cons_zero, List.getElem_cons_succ]
          refine wpAnyH_take (i := 14) (v := ?vp14) rfl (by kernel_rfl) (by kernel_rfl) (by kernel_rfl) (fun _ _ _ h => h) (Or.inl ⟨by rfl, ?hyp14⟩) (by assumption) ?restp14
          case hyp14 =>
            intro w hSw
            (try dsimp only at hSw)
            go_simp
            try with_reducible rfl
          simp only [Act.put, List.setIfInBounds_toArray, List.set_cons_zero, List.set_cons_succ, List.getElem_toArray, List.getElem_cons_zero, List.getElem_cons_succ]
          refine wpAnyH_ready (rs := [15]) (by kernel_rfl) (by simp) ?_
          refine AllReadyH.cons rfl (fun KC hKC => ?_) AllReadyH.nil
          go_simp
          refine (read_fresh' wb rb P len e0 cn v m g S B w2.drew HG hc1.out HA2.out.1.wk HA2.out.1.rt.rbh HA2.out.1.rt.row hmb hcn hv1 hv hlen HSF.out.2.2).mono ?_
          rintro e w3 ⟨rfl, h3⟩
          have HS3 : Hid (w3.cell? ⟨wb, 0, none⟩ = some (.pointer (some ⟨sb, 0, none⟩)) ∧ w3.cell? ⟨sb, 0, none⟩ = some (.iface 90 (.pointer (some ⟨rb, 0, none⟩))) ∧ w3.cell? ⟨eb, 0, none⟩ = some (.int .i64 e0) ∧ w3.cell? ⟨eb, 1, none⟩ = some (.int .i64 cn) ∧ w3.cell? ⟨eb, 2, none⟩ = some (.int .i64 v) ∧ w3.cell? ⟨wb, 13, none⟩ = some (.int .i64 m)) := HKp.out w3 (w2.heap.size + 1) _ _ (Nat.le_succ_of_le hNw) (fun cc t f h => fresh_no h) h3.undrew
          refine hKC.out _ _ ?_ (fun hHeld => ?_)
          · exact HS3.out
          clear hKC KC
          try simp only [Act.put, List.setIfInBounds_toArray, List.set_cons_zero, List.set_cons_succ, List.getElem_toArray, List.getElem_cons_zero, List.getElem_cons_succ]
          refine wpAnyH_take (i := 16) (v := ?vp16) rfl (by kernel_rfl) (by kernel_rfl) (by kernel_rfl) (fun _ _ _ h => h) (Or.inl ⟨by rfl, ?hyp16⟩) (by assumption) ?restp16
          case hyp16 =>
            intro w hSw
            (try dsimp only at hSw)
            go_simp
            try with_reducible rfl
          simp only [Act.put, List.setIfInBounds_toArray, List.set_cons_zero, List.set_cons_succ, List.getElem_toArray, List.getElem_cons_zero, List.getElem_cons_succ]
          refine wpAnyH_take (i := 17) (v := ?vp17) rfl (by kernel_rfl) (by kernel_rfl) (by kernel_rfl) (fun _ _ _ h => h) (Or.inl ⟨by rfl, ?hyp17⟩) (by assumption) ?restp17
          case hyp17 =>
            intro w hSw
            (try dsimp only at hSw)
            go_simp
            try with_reducible rfl
          simp only [Act.put, List.setIfInBounds_toArray, List.set_cons_zero, List.set_cons_succ, List.getElem_toArray, List.getElem_cons_zero, List.getElem_cons_succ]
          refine wpAnyH_take (i := 18) (v := ?vp18) rfl (by kernel_rfl) (by kernel_rfl) (by kernel_rfl) (fun _ _ _ h => h) (Or.inl ⟨by rfl, ?hyp18⟩) (by assumption) ?restp18
          case hyp18 =>
            intro w hSw
            (try dsimp only at hSw)
            go_simp
            try with_reducible rfl
          simp only [Act.put, List.setIfInBounds_toArray, List.set_cons_zero, List.set_cons_succ, List.getElem_toArray, List.getElem_cons_zero, List.getElem_cons_succ]
          refine wpAnyH_take (i := 19) (v := ?vp19) rfl (by kernel_rfl) (by kernel_rfl) (by kernel_rfl) (fun _ _ _ h => h) (Or.inl ⟨by rfl, ?hyp19⟩) (by assumption) ?restp19
          case hyp19 =>
            intro w hSw
            (try dsimp only at hSw)
            go_simp
            try with_reducible rfl
          simp only [Act.put, List.setIfInBounds_toArray, List.set_cons_zero, List.set_cons_succ, List.getElem_toArray, List.getElem_cons_zero, List.getElem_cons_succ]
          refine wpAnyH_take (i := 20) (v := ?vp20) rfl (by kernel_rfl) (by kernel_rfl) (by kernel_rfl) (fun _ _ _ h => h) (Or.inl ⟨by rfl, ?hyp20⟩) (by assumption) ?restp20
          case hyp20 =>
            intro w hSw
            (try dsimp only at hSw)
            go_simp
            try with_reducible rfl
          simp only [Act.put, List.setIfInBounds_toArray, List.set_cons_zero, List.set_cons_succ, List.getElem_toArray, List.getElem_cons_zero, List.getElem_cons_succ]
          refine wpAnyH_done (by kernel_rfl) ?_ _
          all_goals
            have H3 : Hid (Bytes w3 (w2.heap.size + 1) 0 v (fun j => B (e0 + m * v + j)) ∧ v ≤ S ∧ (FW fb mb rb tb sb P len qb cp cn e0 v N wb D L far left a sa fa sz x fl hs b hf B w0 wS w3 m rw at1 O Z Y ∧ w3.heap[db]? = some (.cells #[.int .u32 sz, .int .u32 (if m = 0 then x else fl), .bool hs, .bool (if m = 0 then b else hf)] 109 (0, 0)) ∧ w3.heap[eb]? = some (.cells #[.int .i64 e0, .int .i64 cn, .int .i64 v] 153 (0, 0)))) := HQ2.out w3 (w2.heap.size + 1) _ _ (Nat.le_succ_of_le hNw) (fresh_ne HA2.out.1.rt.row.lt) (fun cc t f h => fresh_no h) h3.undrew (fun j hj => by rw [if_pos hj]) HS4.out (Nat.le_refl _)
            clear h3
            try simp only [Act.put, List.setIfInBounds_toArray, List.set_cons_zero, List.set_cons_succ, List.getElem_toArray, List.getElem_cons_zero, List.getElem_cons_succ]
            go_wp2
            go_meet
            exact ⟨w2.heap.size + 1, 0, S, rfl, H3.out.2.1, HS4.out, ⟨H3.out.1, H3.out.2.2⟩⟩
        · clear hc
          obtain ⟨Q, c, f, g0, l, Z', hc2⟩ : ∃ (Q c f g l : Nat) (Z' : Nat → Int), Hid (w2.cell? ⟨wb, 31, none⟩ = some (.slice (some ⟨Q, 0, none⟩) l c) ∧ c ≤ 4096 ∧ Row w2 Q c Z' ∧ Q ≠ P ∧ N ≤ Q ∧ f ≤ m ∧ min (4096 / v) (cn - f) * v ≤ c) := hc1.out
          clear hc1
          have HTy : Hid (∀ (c : Array Value) (t : TypeId) (f : Nat × Nat), w2.heap[Q]? = some (.cells c t f) → t = 5) := fun cc t f h => by
            obtain ⟨cq, q1, _⟩ := hc2.out.2.2.1
            rw [q1] at h
            simp only [Option.some.injEq, Obj.cells.injEq] at h
            exact h.2.1.symm
          have HSc : Hid (S ≤ c) := by
            show S ≤ c
            rw [HG.out.2, HG.out.1]
            exact Nat.le_trans (Nat.mul_le_mul_right v (min_mono hc2.out.2.2.2.2.2.1)) hc2.out.2.2.2.2.2.2
          go_upto_region 17 with fail
          refine wp_region_held_drew (S := (fun w' => w'.cell? ⟨wb, 0, none⟩ = some (.pointer (some ⟨sb, 0, none⟩)) ∧ w'.cell? ⟨sb, 0, none⟩ = some (.iface 90 (.pointer (some ⟨rb, 0, none⟩))) ∧ w'.cell? ⟨eb, 0, none⟩ = some (.int .i64 e0) ∧ w'.cell? ⟨eb, 1, none⟩ = some (.int .i64 cn) ∧ w'.cell? ⟨eb, 2, none⟩ = some (.int .i64 v) ∧ w'.cell? ⟨wb, 13, none⟩ = some (.int .i64 m))) (by kernel_rfl) ?_ (fun hHeld => ?_)
          · exact ⟨w00, s0, e_0, e_1, e_2, wz⟩
          refine wpAnyH_take (i := 0) (v := ?vq0) rfl (by kernel_rfl) (by kernel_rfl) (by kernel_rfl) (fun _ _ _ h => h) (Or.inl ⟨by rfl, ?hyq0⟩) (by assumption) ?restq0
          case hyq0 =>
            intro w hSw
            (try dsimp only at hSw)
            go_simp
            try with_reducible rfl
          simp only [Act.put, List.setIfInBounds_toArray, List.set_cons_zero, List.set_cons_succ, List.getElem_toArray, List.getElem_cons_zero, List.getElem_cons_succ]
          refine wpAnyH_take (i := 1) (v := ?vq1) rfl (by kernel_rfl) (by kernel_rfl) (by kernel_rfl) (fun _ _ _ h => h) (Or.inl ⟨by rfl, ?hyq1⟩) (by assumption) ?restq1
          case hyq1 =>
            intro w hSw
            (try dsimp only at hSw)
            go_simp
            try with_reducible rfl
          simp only [Act.put, List.setIfInBounds_toArray, List.set_cons_zero, List.set_cons_succ, List.getElem_toArray, List.getElem_cons_zero, List.getElem_cons_succ]
          refine wpAnyH_take (i := 2) (v := ?vq2) rfl (by kernel_rfl) (by kernel_rfl) (by kernel_rfl) (fun _ _ _ h => h) (Or.inl ⟨by rfl, ?hyq2⟩) (by assumption) ?restq2
          case hyq2 =>
            intro w hSw
            (try dsimp only at hSw)
            go_simp
            try with_reducible rfl
          simp only [Act.put, List.setIfInBounds_toArray, List.set_cons_zero, List.set_cons_succ, List.getElem_toArray, List.getElem_cons_zero, List.getElem_cons_succ]
          refine wpAnyH_take (i := 3) (v := ?vq3) rfl (by kernel_rfl) (by kernel_rfl) (by kernel_rfl) (fun _ _ _ h => h) (Or.inl ⟨by rfl, ?hyq3⟩) (by assumption) ?restq3
          case hyq3 =>
            intro w hSw
            (try dsimp only at hSw)
            go_simp
            try with_reducible rfl
          simp only [Act.put, List.setIfInBounds_toArray, List.set_cons_zero, List.set_cons_succ, List.getElem_toArray, List.getElem_cons_zero, List.getElem_cons_succ]
          refine wpAnyH_take (i := 4) (v := ?vq4) rfl (by kernel_rfl) (by kernel_rfl) (by kernel_rfl) (fun _ _ _ h => h) (Or.inl ⟨by rfl, ?hyq4⟩) (by assumption) ?restq4
          case hyq4 =>
            intro w hSw
            (try dsimp only at hSw)
            go_simp
            try with_reducible rfl
          simp only [Act.put, List.setIfInBounds_toArray, List.set_cons_zero, List.set_cons_succ, List.getElem_toArray, List.getElem_cons_zero, List.getElem_cons_succ]
          refine wpAnyH_take (i := 5) (v := ?vq5) rfl (by kernel_rfl) (by kernel_rfl) (by kernel_rfl) (fun _ _ _ h => h) (Or.inl ⟨by rfl, ?hyq5⟩) (by assumption) ?restq5
          case hyq5 =>
            intro w hSw
            (try dsimp only at hSw)
            go_simp
            try with_reducible rfl
          simp only [Act.put, List.setIfInBounds_toArray, List.set_cons_zero, List.set_cons_succ, List.getElem_toArray, List.getElem_cons_zero, List.getElem_cons_succ]
          refine wpAnyH_take (i := 6) (v := ?vq6) rfl (by kernel_rfl) (by kernel_rfl) (by kernel_rfl) (fun _ _ _ h => h) (Or.inl ⟨by rfl, ?hyq6⟩) (by assumption) ?restq6
          case hyq6 =>
            intro w hSw
            (try dsimp only at hSw)
            go_simp
            try with_reducible rfl
          simp only [Act.put, List.setIfInBounds_toArray, List.set_cons_zero, List.set_cons_succ, List.getElem_toArray, List.getElem_cons_zero, List.getElem_cons_succ]
          refine wpAnyH_take (i := 7) (v := ?vq7) rfl (by kernel_rfl) (by kernel_rfl) (by kernel_rfl) (fun _ _ _ h => h) (Or.inl ⟨by rfl, ?hyq7⟩) (by assumption) ?restq7
          case hyq7 =>
            intro w hSw
            (try dsimp only at hSw)
            go_simp
            try with_reducible rfl
          simp only [Act.put, List.setIfInBounds_toArray, List.set_cons_zero, List.set_cons_succ, List.getElem_toArray, List.getElem_cons_zero, List.getElem_cons_succ]
          refine wpAnyH_take (i := 8) (v := ?vq8) rfl (by kernel_rfl) (by kernel_rfl) (by kernel_rfl) (fun _ _ _ h => h) (Or.inl ⟨by rfl, ?hyq8⟩) (by assumption) ?restq8
          case hyq8 =>
            intro w hSw
            (try dsimp only at hSw)
            go_simp
            try with_reducible rfl
          simp only [Act.put, List.setIfInBounds_toArray, List.set_cons_zero, List.set_cons_succ, List.getElem_toArray, List.getElem_cons_zero, List.getElem_cons_succ]
          refine wpAnyH_take (i := 9) (v := ?vq9) rfl (by kernel_rfl) (by kernel_rfl) (by kernel_rfl) (fun _ _ _ h => h) (Or.inl ⟨by rfl, ?hyq9⟩) (by assumption) ?restq9
          case hyq9 =>
            intro w hSw
            (try dsimp only at hSw)
            go_simp
            try with_reducible rfl
          simp only [Act.put, List.setIfInBounds_toArray, List.set_cons_zero, List.set_cons_succ, List.getElem_toArray, List.getElem_cons_zero, List.getElem_cons_succ]
          refine wpAnyH_take (i := 10) (v := ?vq10) rfl (by kernel_rfl) (by kernel_rfl) (by kernel_rfl) (fun _ _ _ h => h) (Or.inl ⟨by rfl, ?hyq10⟩) (by assumption) ?restq10
          case hyq10 =>
            intro w hSw
            (try dsimp only at hSw)
            go_simp
            try with_reducible rfl
          simp only [Act.put, List.setIfInBounds_toArray, List.set_cons_zero, List.set_cons_succ, List.getElem_toArray, List.getElem_cons_zero, List.getElem_cons_succ]
          refine wpAnyH_take (i := 11) (v := ?vq11) rfl (by kernel_rfl) (by kernel_rfl) (by kernel_rfl) (fun _ _ _ h => h) (Or.inl ⟨by rfl, ?hyq11⟩) (by assumption) ?restq11
          case hyq11 =>
            intro w hSw
            (try dsimp only at hSw)
            go_simp
            try with_reducible rfl
          simp only [Act.put, List.setIfInBounds_toArray, List.set_cons_zero, List.set_cons_succ, List.getElem_toArray, List.getElem_cons_zero, List.getElem_cons_succ]
          refine wpAnyH_take (i := 12) (v := ?vq12) rfl (by kernel_rfl) (by kernel_rfl) (by kernel_rfl) (fun _ _ _ h => h) (Or.inl ⟨by rfl, ?hyq12⟩) (by assumption) ?restq12
          case hyq12 =>
            intro w hSw
            (try dsimp only at hSw)
            go_simp
            try with_reducible rfl
          simp only [Act.put, List.setIfInBounds_toArray, List.set_cons_zero, List.set_cons_succ, List.getElem_toArray, List.getElem_cons_zero, List.getElem_cons_succ]
          refine wpAnyH_take (i := 13) (v := ?vq13) rfl (by kernel_rfl) (by kernel_rfl) (by kernel_rfl) (fun _ _ _ h => h) (Or.inl ⟨by rfl, ?hyq13⟩) (by assumption) ?restq13
          case hyq13 =>
            intro w hSw
            (try dsimp only at hSw)
            go_simp
            try with_reducible rfl
          simp only [Act.put, List.setIfInBounds_toArray, List.set_cons_zero, List.set_cons_succ, List.getElem_toArray, List.getElem_cons_zero, List.getElem_cons_succ]
          refine wpAnyH_take (i := 14) (v := ?vq14) rfl (by kernel_rfl) (by kernel_rfl) (by kernel_rfl) (fun _ _ _ h => h) (Or.inl ⟨by rfl, ?hyq14⟩) (by assumption) ?restq14
          case hyq14 =>
            intro w hSw
            (try dsimp only at hSw)
            go_simp
            try with_reducible rfl
          simp only [Act.put, List.setIfInBounds_toArray, List.set_cons_zero, List.set_cons_succ, List.getElem_toArray, List.getElem_cons_zero, List.getElem_cons_succ]
          refine wpAnyH_ready (rs := [15]) (by kernel_rfl) (by simp) ?_
          refine AllReadyH.cons rfl (fun KC hKC => ?_) AllReadyH.nil
          go_simp
          refine (read_again' wb rb P len e0 cn v m g S Q l c Z' B w2.drew HG hc2.out.1 HA2.out.1.wk HA2.out.1.rt.rbh HA2.out.1.rt.row hc2.out.2.2.1 hmb hcn hv1 hv hlen HSF.out.2.2 (Nat.le_trans hc2.out.2.1 (by decide)) HSc.out).mono ?_
          rintro e w3 ⟨rfl, h3⟩
          have HS3 : Hid (w3.cell? ⟨wb, 0, none⟩ = some (.pointer (some ⟨sb, 0, none⟩)) ∧ w3.cell? ⟨sb, 0, none⟩ = some (.iface 90 (.pointer (some ⟨rb, 0, none⟩))) ∧ w3.cell? ⟨eb, 0, none⟩ = some (.int .i64 e0) ∧ w3.cell? ⟨eb, 1, none⟩ = some (.int .i64 cn) ∧ w3.cell? ⟨eb, 2, none⟩ = some (.int .i64 v) ∧ w3.cell? ⟨wb, 13, none⟩ = some (.int .i64 m)) := HKp.out w3 _ _ _ hc2.out.2.2.2.2.1 HTy.out h3.undrew
          refine hKC.out _ _ ?_ (fun hHeld => ?_)
          · exact HS3.out
          clear hKC KC
          try simp only [Act.put, List.setIfInBounds_toArray, List.set_cons_zero, List.set_cons_succ, List.getElem_toArray, List.getElem_cons_zero, List.getElem_cons_succ]
          refine wpAnyH_take (i := 16) (v := ?vq16) rfl (by kernel_rfl) (by kernel_rfl) (by kernel_rfl) (fun _ _ _ h => h) (Or.inl ⟨by rfl, ?hyq16⟩) (by assumption) ?restq16
          case hyq16 =>
            intro w hSw
            (try dsimp only at hSw)
            go_simp
            try with_reducible rfl
          simp only [Act.put, List.setIfInBounds_toArray, List.set_cons_zero, List.set_cons_succ, List.getElem_toArray, List.getElem_cons_zero, List.getElem_cons_succ]
          refine wpAnyH_take (i := 17) (v := ?vq17) rfl (by kernel_rfl) (by kernel_rfl) (by kernel_rfl) (fun _ _ _ h => h) (Or.inl ⟨by rfl, ?hyq17⟩) (by assumption) ?restq17
          case hyq17 =>
            intro w hSw
            (try dsimp only at hSw)
            go_simp
            try with_reducible rfl
          simp only [Act.put, List.setIfInBounds_toArray, List.set_cons_zero, List.set_cons_succ, List.getElem_toArray, List.getElem_cons_zero, List.getElem_cons_succ]
          refine wpAnyH_take (i := 18) (v := ?vq18) rfl (by kernel_rfl) (by kernel_rfl) (by kernel_rfl) (fun _ _ _ h => h) (Or.inl ⟨by rfl, ?hyq18⟩) (by assumption) ?restq18
          case hyq18 =>
            intro w hSw
            (try dsimp only at hSw)
            go_simp
            try with_reducible rfl
          simp only [Act.put, List.setIfInBounds_toArray, List.set_cons_zero, List.set_cons_succ, List.getElem_toArray, List.getElem_cons_zero, List.getElem_cons_succ]
          refine wpAnyH_take (i := 19) (v := ?vq19) rfl (by kernel_rfl) (by kernel_rfl) (by kernel_rfl) (fun _ _ _ h => h) (Or.inl ⟨by rfl, ?hyq19⟩) (by assumption) ?restq19
          case hyq19 =>
            intro w hSw
            (try dsimp only at hSw)
            go_simp
            try with_reducible rfl
          simp only [Act.put, List.setIfInBounds_toArray, List.set_cons_zero, List.set_cons_succ, List.getElem_toArray, List.getElem_cons_zero, List.getElem_cons_succ]
          refine wpAnyH_take (i := 20) (v := ?vq20) rfl (by kernel_rfl) (by kernel_rfl) (by kernel_rfl) (fun _ _ _ h => h) (Or.inl ⟨by rfl, ?hyq20⟩) (by assumption) ?restq20
          case hyq20 =>
            intro w hSw
            (try dsimp only at hSw)
            go_simp
            try with_reducible rfl
          simp only [Act.put, List.setIfInBounds_toArray, List.set_cons_zero, List.set_cons_succ, List.getElem_toArray, List.getElem_cons_zero, List.getElem_cons_succ]
          refine wpAnyH_done (by kernel_rfl) ?_ _
          all_goals
            have H3 : Hid (Bytes w3 Q 0 v (fun j => B (e0 + m * v + j)) ∧ v ≤ c ∧ (FW fb mb rb tb sb P len qb cp cn e0 v N wb D L far left a sa fa sz x fl hs b hf B w0 wS w3 m rw at1 O Z Y ∧ w3.heap[db]? = some (.cells #[.int .u32 sz, .int .u32 (if m = 0 then x else fl), .bool hs, .bool (if m = 0 then b else hf)] 109 (0, 0)) ∧ w3.heap[eb]? = some (.cells #[.int .i64 e0, .int .i64 cn, .int .i64 v] 153 (0, 0)))) := HQ2.out w3 Q _ _ hc2.out.2.2.2.2.1 hc2.out.2.2.2.1 (fun cc t f h => by
              obtain ⟨cq, q1, _⟩ := hc2.out.2.2.1
              rw [q1] at h
              simp only [Option.some.injEq, Obj.cells.injEq] at h
              exact h.2.1.symm) h3.undrew (fun j hj => by rw [if_pos hj]) hc2.out.2.1 HSc.out
            clear h3
            try simp only [Act.put, List.setIfInBounds_toArray, List.set_cons_zero, List.set_cons_succ, List.getElem_toArray, List.getElem_cons_zero, List.getElem_cons_succ]
            go_wp2
            go_meet
            exact ⟨Q, 0, c, rfl, H3.out.2.1, hc2.out.2.1, ⟨H3.out.1, H3.out.2.2⟩⟩
      · go_wp2
        go_meet
        exact ⟨Q, z, c, rfl, hvc, hc4, ⟨hbs.out, HA2.out⟩⟩
    case rest =>
      obtain ⟨Q, z, c, rfl, hvc, hc4, hq5⟩ := hcut
      have HQ5 : Hid (Bytes wc Q z v (fun j => B (e0 + m * v + j)) ∧ (FW fb mb rb tb sb P len qb cp cn e0 v N wb D L far left a sa fa sz x fl hs b hf B w0 wS wc m rw at1 O Z Y ∧ wc.heap[db]? = some (.cells #[.int .u32 sz, .int .u32 (if m = 0 then x else fl), .bool hs, .bool (if m = 0 then b else hf)] 109 (0, 0)) ∧ wc.heap[eb]? = some (.cells #[.int .i64 e0, .int .i64 cn, .int .i64 v] 153 (0, 0)))) := hq5
      refine hKF _ _ ?_
      refine fl_20 fb mb rb tb sb P len qb cp cn e0 v N wb D L far left a sa fa sz x fl hs b hf B w0 wS m k rw n eb db Q z c at1 O Z Y K post wc _ _ _ _ _ _ _ _ _ _ _ _ _ _ _ _ _ _ _ _ _ _ _ _ _ _ _ _ _ _ _ _ _ _ _ _ _ _ _ _ _ _ _ _ _ _ _ _ _ _ _ _ _ _ _ _ _ _ _ _ _ _ _ _ _ _ _ _ _ _ _ _ _ _ _ _ _ _ _ _ _ _ _ _ _ _ _ _ _ _ _ _ _ _ _ _ _ _ _ _ _ _ _ _ _ _ _ _ _ _ _ _ _ _ _ _ _ _ _ _ _ _ _ _ _ _ _ _ _ _ _ _ _ _ _ _ _ _ _ _ _ _ _ _ _ _ _ _ _ _ _ _ _ _ _ _ _ _ _ _ _ _ _ _ _ _ _ _ _ _ _ _ _ _ _ _ _ _ _ _ _ _ _ _ _ _ _ _ _ _ _ _ _ _ _ _ _ _ _ _ _ _ _ _ _ _ _ _ _ _ _ _ _ _ _ _ _ _ _ ⟨HQ5.out.2.1, HQ5.out.2.2.1, HQ5.out.2.2.2, HQ5.out.1⟩ hNdb hvc hc4 hv hv1 HSF.out.1 HSF.out.2.1 HBy.out (fun z146 z147 z148 z149 z150 z151 z152 z153 z154 z155 z156 z157 z158 z159 z160 z161 z162 z163 z164 z165 z166 z167 z168 z169 z170 z171 z172 z173 w' h => ?_)
      conv => arg 1; zeta
      exact HK.out _ _ _ _ _ _ _ _ _ _ _ _ _ _ _ _ _ _ _ _ _ _ _ _ _ _ _ _ _ _ _ _ _ _ _ _ _ z146 z147 z148 z149 z150 z151 z152 z153 z154 z155 z156 z157 z158 z159 z160 z161 z162 z163 z164 z165 z166 z167 z168 z169 z170 z171 z172 z173 w' h
end Go.Proofs.Qxb6613648aFmt

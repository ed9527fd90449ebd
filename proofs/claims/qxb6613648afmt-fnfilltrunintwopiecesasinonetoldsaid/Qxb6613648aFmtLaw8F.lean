/-
  FnFillTrunInTwoPiecesAsInOne: the three fills.
-/
import Derived.Test.Qxb6613648aFmtLaw8E
namespace Go.Proofs.Qxb6613648aFmt
open Go.RowKit
set_option linter.unusedVariables false
set_option linter.unusedSimpArgs false
attribute [local go_sem] setCell_drewN alloc_drewN

/-- A walker and a row, both new. -/
theorem new_pair (wA : World) (sb L : Nat) : ∃ w2, w2 = (wA.alloc (.cells #[.pointer (some ⟨sb, 0, none⟩), .int .i64 0, .int .i64 0, .int .u64 0, .int .u32 0, .int .u32 0, .int .u32 0, .int .u64 0, .int .u32 0, .int .u32 0, .int .i64 0, .int .u64 0, .int .i64 0, .int .i64 0, .int .i64 0, .slice none 0 0, .int .i64 0, .int .i64 0, .int .i64 0, .slice none 0 0, .int .i64 0, .int .i64 0, .int .i64 0, .slice none 0 0, .int .i64 0, .int .i64 0, .int .i64 0, .slice none 0 0, .int .i64 0, .int .i64 0, .int .i64 0, .slice none 0 0, .int .i64 0, .int .i64 0, .int .i64 0] 138)).alloc (.cells (madeCells #[.int .i64 0, .int .i64 0, .bool false] (L * 3)) 78) ∧ Below wA.heap.size wA w2 ∧ w2.heap[wA.heap.size]? = some (.cells #[.pointer (some ⟨sb, 0, none⟩), .int .i64 0, .int .i64 0, .int .u64 0, .int .u32 0, .int .u32 0, .int .u32 0, .int .u64 0, .int .u32 0, .int .u32 0, .int .i64 0, .int .u64 0, .int .i64 0, .int .i64 0, .int .i64 0, .slice none 0 0, .int .i64 0, .int .i64 0, .int .i64 0, .slice none 0 0, .int .i64 0, .int .i64 0, .int .i64 0, .slice none 0 0, .int .i64 0, .int .i64 0, .int .i64 0, .slice none 0 0, .int .i64 0, .int .i64 0, .int .i64 0, .slice none 0 0, .int .i64 0, .int .i64 0, .int .i64 0] 138 (0, 0)) ∧ SRow w2 (wA.heap.size + 1) L (fun _ => (0 : Int)) (fun _ => (0 : Int)) (fun _ => false) := by
  refine ⟨_, rfl, ((Below.refl _ _).alloc (Nat.le_refl _) _).alloc (by simp) _, alloc_keep (alloc_new rfl), ?_⟩
  have := SRow.made (wA.alloc (.cells #[.pointer (some ⟨sb, 0, none⟩), .int .i64 0, .int .i64 0, .int .u64 0, .int .u32 0, .int .u32 0, .int .u32 0, .int .u64 0, .int .u32 0, .int .u32 0, .int .i64 0, .int .u64 0, .int .i64 0, .int .i64 0, .int .i64 0, .slice none 0 0, .int .i64 0, .int .i64 0, .int .i64 0, .slice none 0 0, .int .i64 0, .int .i64 0, .int .i64 0, .slice none 0 0, .int .i64 0, .int .i64 0, .int .i64 0, .slice none 0 0, .int .i64 0, .int .i64 0, .int .i64 0, .slice none 0 0, .int .i64 0, .int .i64 0, .int .i64 0] 138)) L
  rwa [show (wA.alloc (.cells #[.pointer (some ⟨sb, 0, none⟩), .int .i64 0, .int .i64 0, .int .u64 0, .int .u32 0, .int .u32 0, .int .u32 0, .int .u64 0, .int .u32 0, .int .u32 0, .int .i64 0, .int .u64 0, .int .i64 0, .int .i64 0, .int .i64 0, .slice none 0 0, .int .i64 0, .int .i64 0, .int .i64 0, .slice none 0 0, .int .i64 0, .int .i64 0, .int .i64 0, .slice none 0 0, .int .i64 0, .int .i64 0, .int .i64 0, .slice none 0 0, .int .i64 0, .int .i64 0, .int .i64 0, .slice none 0 0, .int .i64 0, .int .i64 0, .int .i64 0] 138)).heap.size = wA.heap.size + 1 by simp] at this

set_option maxRecDepth 1000000 in
set_option maxHeartbeats 8000000 in
theorem l8_19 (fb mb rb tb sb P len qb cp cn e0 v mbk hd tl : Nat) (far left a sa fa sz x fl fs en : Int) (hs b hf ok dc fhs fhf : Bool) (B : Nat → Int) (post : Ending → World → Prop) (wX wA : World) (u0 u1 u2 u3 u4 u5 u6 u9 u10 u11 u12 u13 u14 u15 u16 u17 u18 u20 u21 u23 u24 u25 u26 u27 u28 u29 u30 u31 u32 u33 u34 u35 u36 u37 u38 u39 u40 u41 u42 u43 u44 u45 u46 u47 u48 u49 u50 u51 u52 u53 u54 u55 u56 u57 u58 u59 u60 u61 u62 u63 u64 u65 u66 u67 u68 u69 u70 u71 u72 u73 u74 u75 u76 u77 u78 u79 u80 u81 u82 u83 u84 u85 u86 u87 u88 u89 u90 u91 u92 u93 u94 u95 u96 u97 u98 u99 u100 u101 u102 u103 u104 u105 u106 u107 u108 u109 u110 u111 u112 u113 u114 u115 u116 u117 u118 u119 u120 u121 u122 u123 u124 u125 u126 u127 u128 u129 u130 u131 u132 u133 u134 u135 u136 u137 u138 u139 u140 u141 u142 u143 u144 u145 u146 u147 u148 u149 u150 u151 u152 u153 u154 u155 u156 u157 u158 u159 u160 u161 u162 u163 u164 u165 u166 u167 u168 u169 u170 u171 u172 u173 u174 u175 u176 u177 u178 u179 u180 u181 u182 u183 u184 u185 u186 u187 u188 u189 u190 u191 u192 u193 u194 u195 u196 u197 u198 u199 u200 u201 u202 u203 u204 u205 u206 u207 u208 u209 u210 u211 u212 u213 u214 u215 u216 u217 u218 u219 u220 u221 u222 u223 u224 u225 u226 u227 u228 u229 u230 u231 u232 u233 u234 u235 u236 u237 u238 u239 u240 u241 u242 u243 u244 u245 u246 u247 u248 u249 u250 u251 u252 u253 u254 u255 u256 u257 u258 u259 u260 u261 : Value)
    (hX : wX.heap[mbk]? = some (.cells #[.bool ok, .bool dc, .int .i64 cn, .int .i64 a, .int .i64 e0, .int .i64 en, .int .i64 v, .int .i64 sa, .int .i64 fa, .int .u32 fs, .int .u32 x, .bool fhs, .bool fhf] 57 (0, 0))) (hbl : Below wX.heap.size wX wA)
    (hrt : RT wA fb mb rb tb sb P len far left B (.slice (some ⟨qb, 0, none⟩) 1 cp) cn) (htr : TrunAt wA qb #[.int .i64 a, .int .i64 e0, .int .i64 cn, .int .i64 v, .int .i64 sa, .int .i64 fa, .int .u32 sz, .int .u32 x, .bool hs, .bool b, .int .u32 sz, .int .u32 fl, .bool hs, .bool hf])
    (hhd : hd < cn) (htl : tl ≤ 65536) (hcn : cn ≤ 65536) (hv : v ≤ 16) (hen : e0 + cn * v ≤ len) (hlen : len ≤ 1048576) (hsa : 0 ≤ sa → sa + 4 ≤ v) (hfa : 0 ≤ fa → fa + 4 ≤ v) (hB : Byte B) (hsz0 : 0 ≤ sz) (hsz1 : sz ≤ 4294967295) (hx0 : 0 ≤ x) (hx1 : x ≤ 4294967295) (hfl0 : 0 ≤ fl) (hfl1 : fl ≤ 4294967295) (ha0 : -2147483648 ≤ a) (ha1 : a ≤ 4611686020574871552) (hf0 : 0 ≤ far) (hf1 : far ≤ 4611686018427387904)
    (hpost : ∀ w', Below wX.heap.size wX w' → post (.returned (.bool true)) w') :
    Code.wp Tryf.prog ((Tryf.f8.body.bind (fromReg 19)).getD .skip) (bodyPost Tryf.prog Tryf.f8 post) ⟨#[u0, u1, u2, u3, u4, u5, u6, .int .i64 hd, .int .i64 tl, u9, u10, u11, u12, u13, u14, u15, u16, u17, u18, .pointer (some ⟨mbk, 0, none⟩), u20, u21, .pointer (some ⟨tb, 0, none⟩), u23, u24, u25, u26, u27, u28, u29, u30, u31, u32, u33, u34, u35, u36, u37, u38, u39, u40, u41, u42, u43, u44, u45, u46, u47, u48, u49, u50, u51, u52, u53, u54, u55, u56, u57, u58, u59, u60, u61, u62, u63, u64, u65, u66, u67, u68, u69, u70, u71, u72, u73, u74, u75, u76, u77, u78, u79, u80, u81, u82, u83, u84, u85, u86, u87, u88, u89, u90, u91, u92, u93, u94, u95, u96, u97, u98, u99, u100, u101, u102, u103, u104, u105, u106, u107, u108, u109, u110, u111, u112, u113, u114, u115, u116, u117, u118, u119, u120, u121, u122, u123, u124, u125, u126, u127, u128, u129, u130, u131, u132, u133, u134, u135, u136, u137, u138, u139, u140, u141, u142, u143, u144, u145, u146, u147, u148, u149, u150, u151, u152, u153, u154, u155, u156, u157, u158, u159, u160, u161, u162, u163, u164, u165, u166, u167, u168, u169, u170, u171, u172, u173, u174, u175, u176, u177, u178, u179, u180, u181, u182, u183, u184, u185, u186, u187, u188, u189, u190, u191, u192, u193, u194, u195, u196, u197, u198, u199, u200, u201, u202, u203, u204, u205, u206, u207, u208, u209, u210, u211, u212, u213, u214, u215, u216, u217, u218, u219, u220, u221, u222, u223, u224, u225, u226, u227, u228, u229, u230, u231, u232, u233, u234, u235, u236, u237, u238, u239, u240, u241, u242, u243, u244, u245, u246, u247, u248, u249, u250, u251, u252, u253, u254, u255, u256, u257, u258, u259, u260, u261], []⟩ wA := by
  have HX : Hid (wX.heap[mbk]? = some (.cells #[.bool ok, .bool dc, .int .i64 cn, .int .i64 a, .int .i64 e0, .int .i64 en, .int .i64 v, .int .i64 sa, .int .i64 fa, .int .u32 fs, .int .u32 x, .bool fhs, .bool fhf] 57 (0, 0)) ∧ Below wX.heap.size wX wA) := ⟨hX, hbl⟩
  have HR : Hid (RT wA fb mb rb tb sb P len far left B (.slice (some ⟨qb, 0, none⟩) 1 cp) cn ∧ TrunAt wA qb #[.int .i64 a, .int .i64 e0, .int .i64 cn, .int .i64 v, .int .i64 sa, .int .i64 fa, .int .u32 sz, .int .u32 x, .bool hs, .bool b, .int .u32 sz, .int .u32 fl, .bool hs, .bool hf]) := ⟨hrt, htr⟩
  have HNu : Hid ((0 ≤ sa → sa + 4 ≤ v) ∧ (0 ≤ fa → fa + 4 ≤ v) ∧ e0 + cn * v ≤ len ∧ Byte B) := ⟨hsa, hfa, hen, hB⟩
  have HP : Hid (∀ w', Below wX.heap.size wX w' → post (.returned (.bool true)) w') := hpost
  have t3 : wA.cell? ⟨tb, 3, none⟩ = some (.pointer (some ⟨sb, 0, none⟩)) := by simp [World.cell?, hrt.tbh]
  have hmk := mk_samples hd (by omega)
  have hXA : wX.heap.size ≤ wA.heap.size := hbl.size
  obtain ⟨w2, hw2, hb2, hwb, hs2⟩ := new_pair wA sb hd
  obtain ⟨wb1, hwb1⟩ : ∃ k, k = wA.heap.size := ⟨_, rfl⟩
  obtain ⟨D1, hD1⟩ : ∃ k, k = wA.heap.size + 1 := ⟨_, rfl⟩
  have H2 : Hid (FW fb mb rb tb sb P len qb cp cn e0 v wX.heap.size wb1 D1 hd far left a sa fa sz x fl hs b hf B wX w2 w2 0 0 0 (fun _ => (0 : Int)) (fun _ => (0 : Int)) (fun _ => false)) := by
    rw [← hwb1] at hwb
    rw [← hD1] at hs2
    obtain ⟨cq, q1, q2⟩ := htr
    exact FW.start (wS := wX) (hrt.step hb2) (⟨cq, (hb2.block qb (lt_of_block q1)).trans q1, q2⟩) (hbl.trans (hb2.mono hXA)) hwb hs2
  have hN1 : wX.heap.size ≤ wb1 := by omega
  have hND1 : wX.heap.size ≤ D1 := by omega
  clear hX hbl hrt htr hsa hfa hen hB hpost hb2 hwb hs2
  conv => arg 2; whnf
  go_wp2_with fail
  refine (newWalker_any tb sb wA t3).mono ?_
  rintro e w1 ⟨rfl, hw1⟩
  have hs1 : w1.heap.size = D1 := by rw [hw1, hD1]; simp
  have hmk1 : (Instr.makeSlice 76 (.int .i64 hd) (.int .i64 hd)).run Tryf.prog w1 = .ok (.slice (some ⟨D1, 0, none⟩) hd hd) w2 := by rw [hmk w1, hs1, hw2, hw1]
  rw [show wA.heap.size = wb1 from hwb1.symm]
  clear hmk hw2 hw1 t3 hs1 hD1 hwb1
  go_wp2_with fail
  obtain ⟨n1, n2, n3, n4⟩ := HNu.out
  refine (zzFill_any fb mb rb tb sb P len qb cp cn e0 v wX.heap.size wb1 D1 hd far left a sa fa sz x fl hs b hf B wX w2 0 0 0 (fun _ => (0 : Int)) (fun _ => (0 : Int)) (fun _ => false) w2 H2.out (fun h => absurd h (by omega)) hN1 hND1 (by omega) hcn (by omega) (by omega) hv n3 hlen n1 n2 n4 hsz0 hsz1 hx0 hx1 hfl0 hfl1 ha0 ha1 hf0 hf1 hd (by omega)).mono ?_
  rintro e w3 ⟨rfl, h3⟩
  simp only [Nat.zero_add] at h3
  obtain ⟨A1, hA1⟩ : ∃ A1, A1 = (if hd = 0 then 0 else offAt far a (szOf B e0 v sa sz) hd) := ⟨_, rfl⟩
  rw [← hA1] at h3
  have H3 : Hid (FW fb mb rb tb sb P len qb cp cn e0 v wX.heap.size wb1 D1 hd far left a sa fa sz x fl hs b hf B wX w2 w3 hd hd A1 (fun j => if j < hd then offAt far a (szOf B e0 v sa sz) j else 0) (fun j => if j < hd then (szOf B e0 v sa sz) j else 0) (fun j => if j < hd then (bits .and .u32 ((fgOf B e0 v fa x fl) j) 65536 == 0) else false)) := h3
  have HA1 : Hid (A1 = (if hd = 0 then 0 else offAt far a (szOf B e0 v sa sz) hd)) := hA1
  clear h3 hA1 n1 n2 n3 n4 hmk1
  obtain ⟨D2, hD2⟩ : ∃ k, k = w3.heap.size := ⟨_, rfl⟩
  obtain ⟨w4, hw4⟩ : ∃ w, w = w3.alloc (.cells (madeCells #[.int .i64 0, .int .i64 0, .bool false] (tl * 3)) 78) := ⟨_, rfl⟩
  have hmk2 : (Instr.makeSlice 76 (.int .i64 tl) (.int .i64 tl)).run Tryf.prog w3 = .ok (.slice (some ⟨D2, 0, none⟩) tl tl) w4 := by rw [mk_samples tl (by omega) w3, hD2, hw4]
  have H4 : Hid (FW fb mb rb tb sb P len qb cp cn e0 v wX.heap.size wb1 D2 tl far left a sa fa sz x fl hs b hf B wX w4 w4 hd hd A1 (fun _ => (0 : Int)) (fun _ => (0 : Int)) (fun _ => false) ∧ SRow w4 D1 hd (fun j => if j < hd then offAt far a (szOf B e0 v sa sz) j else 0) (fun j => if j < hd then (szOf B e0 v sa sz) j else 0) (fun j => if j < hd then (bits .and .u32 ((fgOf B e0 v fa x fl) j) 65536 == 0) else false) ∧ D1 ≠ D2 ∧ D1 ≠ wb1 ∧ wX.heap.size ≤ D2) := by
    have hb : Below w3.heap.size w3 w4 := by rw [hw4]; exact (Below.refl _ _).alloc (Nat.le_refl _) _
    have hs : SRow w4 D2 tl (fun _ => (0 : Int)) (fun _ => (0 : Int)) (fun _ => false) := by rw [hw4, hD2]; exact SRow.made w3 tl
    obtain ⟨dc0, d1, d2⟩ := H3.out.dst
    obtain ⟨cu, k1, k2⟩ := H3.out.wk
    exact ⟨(H3.out.later hN1 hb).redirect hs, H3.out.dst.of_block (fun c f h => (hb.block D1 (lt_of_block h)).trans h), by have := lt_of_block d1; omega, cells_ne d1 k1 (by decide), by rw [hD2]; exact H3.out.below.size⟩
  clear hw4 hD2
  go_wp2_with fail
  obtain ⟨n1, n2, n3, n4⟩ := HNu.out
  obtain ⟨m2, hm2⟩ : ∃ k, k = min tl (cn - hd) := ⟨_, rfl⟩
  refine (zzFill_any fb mb rb tb sb P len qb cp cn e0 v wX.heap.size wb1 D2 tl far left a sa fa sz x fl hs b hf B wX w4 hd hd A1 (fun _ => (0 : Int)) (fun _ => (0 : Int)) (fun _ => false) w4 H4.out.1 (fun h => by rw [HA1.out, if_neg (by omega)]) hN1 H4.out.2.2.2.2 hhd hcn (by omega) (by omega) hv n3 hlen n1 n2 n4 hsz0 hsz1 hx0 hx1 hfl0 hfl1 ha0 ha1 hf0 hf1 m2 hm2).mono ?_
  rintro e w5 ⟨rfl, h5⟩
  obtain ⟨A2, hA2⟩ : ∃ A2, A2 = (if m2 = 0 then A1 else offAt far a (szOf B e0 v sa sz) (hd + m2)) := ⟨_, rfl⟩
  rw [← hA2] at h5
  have H5 : Hid (FW fb mb rb tb sb P len qb cp cn e0 v wX.heap.size wb1 D2 tl far left a sa fa sz x fl hs b hf B wX w4 w5 (hd + m2) (hd + m2) A2 (fun j => if j < m2 then offAt far a (szOf B e0 v sa sz) (hd + j) else 0) (fun j => if j < m2 then (szOf B e0 v sa sz) (hd + j) else 0) (fun j => if j < m2 then (bits .and .u32 ((fgOf B e0 v fa x fl) (hd + j)) 65536 == 0) else false) ∧ SRow w5 D1 hd (fun j => if j < hd then offAt far a (szOf B e0 v sa sz) j else 0) (fun j => if j < hd then (szOf B e0 v sa sz) j else 0) (fun j => if j < hd then (bits .and .u32 ((fgOf B e0 v fa x fl) j) 65536 == 0) else false)) := ⟨h5, h5.kept H4.out.2.1 H4.out.2.2.1 H4.out.2.2.2.1⟩
  have HA2 : Hid (A2 = (if m2 = 0 then A1 else offAt far a (szOf B e0 v sa sz) (hd + m2))) := hA2
  have HM2 : Hid (m2 = min tl (cn - hd)) := hm2
  have t35 : w5.cell? ⟨tb, 3, none⟩ = some (.pointer (some ⟨sb, 0, none⟩)) := by simp [World.cell?, h5.rt.tbh]
  clear h5 hA2 hm2 n1 n2 n3 n4 hmk2 H2 H3
  obtain ⟨w6, hw6, hb6, hwb6, hs6⟩ := new_pair w5 sb (hd + tl)
  obtain ⟨wb2, hwb2⟩ : ∃ k, k = w5.heap.size := ⟨_, rfl⟩
  obtain ⟨D3, hD3⟩ : ∃ k, k = w5.heap.size + 1 := ⟨_, rfl⟩
  rw [← hwb2] at hwb6
  rw [← hD3] at hs6
  have H6 : Hid (FW fb mb rb tb sb P len qb cp cn e0 v wX.heap.size wb2 D3 (hd + tl) far left a sa fa sz x fl hs b hf B wX w6 w6 0 0 0 (fun _ => (0 : Int)) (fun _ => (0 : Int)) (fun _ => false) ∧ SRow w6 D1 hd (fun j => if j < hd then offAt far a (szOf B e0 v sa sz) j else 0) (fun j => if j < hd then (szOf B e0 v sa sz) j else 0) (fun j => if j < hd then (bits .and .u32 ((fgOf B e0 v fa x fl) j) 65536 == 0) else false) ∧ SRow w6 D2 tl (fun j => if j < m2 then offAt far a (szOf B e0 v sa sz) (hd + j) else 0) (fun j => if j < m2 then (szOf B e0 v sa sz) (hd + j) else 0) (fun j => if j < m2 then (bits .and .u32 ((fgOf B e0 v fa x fl) (hd + j)) 65536 == 0) else false) ∧ (FW fb mb rb tb sb P len qb cp cn e0 v wX.heap.size wb1 D2 tl far left a sa fa sz x fl hs b hf B wX w4 w6 (hd + m2) (hd + m2) A2 (fun j => if j < m2 then offAt far a (szOf B e0 v sa sz) (hd + j) else 0) (fun j => if j < m2 then (szOf B e0 v sa sz) (hd + j) else 0) (fun j => if j < m2 then (bits .and .u32 ((fgOf B e0 v fa x fl) (hd + j)) 65536 == 0) else false))) := by
    obtain ⟨cq, q1, q2⟩ := H5.out.1.tr
    exact ⟨FW.start (wS := wX) (H5.out.1.rt.step hb6) ⟨cq, (hb6.block qb (lt_of_block q1)).trans q1, q2⟩ (H5.out.1.below.trans (hb6.mono H5.out.1.below.size)) hwb6 hs6, H5.out.2.of_block (fun c f h => (hb6.block _ (lt_of_block h)).trans h), H5.out.1.dst.of_block (fun c f h => (hb6.block _ (lt_of_block h)).trans h), H5.out.1.later hN1 hb6⟩
  have HLt : Hid (wX.heap.size ≤ wb2 ∧ wX.heap.size ≤ D3 ∧ D1 < wb2 ∧ D2 < wb2 ∧ wb1 < wb2) := by
    obtain ⟨dc1, d1, _⟩ := H5.out.2
    obtain ⟨dc2, d2, _⟩ := H5.out.1.dst
    obtain ⟨cu, k1, _⟩ := H5.out.1.wk
    have := H5.out.1.below.size
    have := lt_of_block d1
    have := lt_of_block d2
    have := lt_of_block k1
    exact ⟨by omega, by omega, by omega, by omega, by omega⟩
  clear hb6 hwb6 hs6
  go_wp2_with fail
  refine (newWalker_any tb sb w5 t35).mono ?_
  rintro e wq ⟨rfl, hwq⟩
  have hsq : wq.heap.size = D3 := by rw [hwq, hD3]; simp
  have hmk3 : (Instr.makeSlice 76 (.int .i64 ((hd : Int) + (tl : Int))) (.int .i64 ((hd : Int) + (tl : Int)))).run Tryf.prog wq = .ok (.slice (some ⟨D3, 0, none⟩) (hd + tl) (hd + tl)) w6 := by
    have := mk_samples (hd + tl) (by omega) wq
    rw [hsq] at this
    rw [hw6, ← hwq]
    simpa using this
  rw [show w5.heap.size = wb2 from hwb2.symm]
  have hD3' : D3 = wb2 + 1 := by omega
  have HD3 : Hid (D3 = wb2 + 1) := hD3'
  clear hw6 hwq t35 hsq hD3 hwb2 hD3'
  obtain ⟨n, hn⟩ : ∃ k, k = min (hd + tl) cn := ⟨_, rfl⟩
  have HN : Hid (n = min (hd + tl) cn) := hn
  clear hn
  go_upto_region 26 with fail
  go_cut [34, 35] (fun s e wx => s = .int .i64 n ∧ e = .nilIface ∧ Hid (FW fb mb rb tb sb P len qb cp cn e0 v wX.heap.size wb2 D3 (hd + tl) far left a sa fa sz x fl hs b hf B wX w6 wx (0 + n) (0 + n) (if n = 0 then 0 else offAt far a (szOf B e0 v sa sz) (0 + n)) (fun j => if j < n then offAt far a (szOf B e0 v sa sz) (0 + j) else 0) (fun j => if j < n then (szOf B e0 v sa sz) (0 + j) else 0) (fun j => if j < n then (bits .and .u32 ((fgOf B e0 v fa x fl) (0 + j)) 65536 == 0) else false)))
  case first =>
    go_wp2_with fail
    obtain ⟨n1, n2, n3, n4⟩ := HNu.out
    refine (zzFill_any fb mb rb tb sb P len qb cp cn e0 v wX.heap.size wb2 D3 (hd + tl) far left a sa fa sz x fl hs b hf B wX w6 0 0 0 (fun _ => (0 : Int)) (fun _ => (0 : Int)) (fun _ => false) w6 H6.out.1 (fun h => absurd h (by omega)) HLt.out.1 HLt.out.2.1 (by omega) hcn (by omega) (by omega) hv n3 hlen n1 n2 n4 hsz0 hsz1 hx0 hx1 hfl0 hfl1 ha0 ha1 hf0 hf1 n (by have := HN.out; omega)).mono ?_
    rintro e w7 ⟨rfl, h7⟩
    have H7 : Hid (FW fb mb rb tb sb P len qb cp cn e0 v wX.heap.size wb2 D3 (hd + tl) far left a sa fa sz x fl hs b hf B wX w6 w7 (0 + n) (0 + n) (if n = 0 then 0 else offAt far a (szOf B e0 v sa sz) (0 + n)) (fun j => if j < n then offAt far a (szOf B e0 v sa sz) (0 + j) else 0) (fun j => if j < n then (szOf B e0 v sa sz) (0 + j) else 0) (fun j => if j < n then (bits .and .u32 ((fgOf B e0 v fa x fl) (0 + j)) 65536 == 0) else false)) := h7
    clear h7 n1 n2 n3 n4
    go_wp2
    go_meet
    exact ⟨rfl, rfl, H7⟩
  case rest =>
    rename_i KB hKB
    obtain ⟨rfl, rfl, H7⟩ := hcut
    refine hKB _ _ ?_
    have hn := HN.out
    have hm2 := HM2.out
    have hD3 := HD3.out
    obtain ⟨l1, l2, l3, l4, l5⟩ := HLt.out
    have hsum : hd + m2 = n := by omega
    have hF6 := H6.out.2.2.2
    have wk6 : ∃ cur, w6.heap[wb1]? = some (.cells cur 138 (0, 0)) ∧ cur.size = 35 := hF6.wk
    have kc : ∀ j, wc.cell? ⟨wb1, j, none⟩ = w6.cell? ⟨wb1, j, none⟩ := fun j => H7.out.keptCells wk6 (by omega) (by omega) j
    have hA : A2 = (if n = 0 then 0 else offAt far a (szOf B e0 v sa sz) (0 + n)) := by
      rw [HA2.out, HA1.out, ← hsum, Nat.zero_add]
      by_cases hm : m2 = 0
      · rw [if_pos hm, hm, Nat.add_zero]
      · rw [if_neg hm, if_neg (by omega)]
    have mm : wc.heap[mbk]? = some (.cells #[.bool ok, .bool dc, .int .i64 cn, .int .i64 a, .int .i64 e0, .int .i64 en, .int .i64 v, .int .i64 sa, .int .i64 fa, .int .u32 fs, .int .u32 x, .bool fhs, .bool fhf] 57 (0, 0)) := (H7.out.below.block mbk (lt_of_block HX.out.1)).trans HX.out.1
    have c13 := H7.out.c13
    have c1 := H7.out.c1
    rw [Nat.zero_add] at c13 c1
    have c14 := H7.out.c14
    rw [← hA] at c14
    have b13 := (kc 13).trans hF6.c13
    have b1 := (kc 1).trans hF6.c1
    rw [hsum] at b13 b1
    refine l8_27 mbk hd tl wb1 wb2 D1 D2 D3 m2 n cn A2 _ _ _ _ _ _ _ _ _ post wX wc _ _ _ _ _ _ _ _ _ _ _ _ _ _ _ _ _ _ _ _ _ _ _ _ _ _ _ _ _ _ _ _ _ _ _ _ _ _ _ _ _ _ _ _ _ _ _ _ _ _ _ _ _ _ _ _ _ _ _ _ _ _ _ _ _ _ _ _ _ _ _ _ _ _ _ _ _ _ _ _ _ _ _ _ _ _ _ _ _ _ _ _ _ _ _ _ _ _ _ _ _ _ _ _ _ _ _ _ _ _ _ _ _ _ _ _ _ _ _ _ _ _ _ _ _ _ _ _ _ _ _ _ _ _ _ _ _ _ _ _ _ _ _ _ _ _ _ _ _ _ _ _ _ _ _ _ _ _ _ _ _ _ _ _ _ _ _ _ _ _ _ _ _ _ _ _ _ _ _ _ _ _ _ _ _ _ _ _ _ _ _ _ _ _ _ _ _ _ _ _ _ _ _ _ _ _ _ _ _ _ _ _ _ _ _ _ _ _ _ _ _ _ _ _ _ _ _ _ _ _ _ _ _ _ _ _ _ _ _ _ _ _ _ _ _ _ _ _ (H7.out.kept H6.out.2.1 (by omega) (by omega)) (H7.out.kept H6.out.2.2.1 (by omega) (by omega)) H7.out.dst (fun j hj => ?_) (fun j hj => ?_) (by simp [World.cell?, mm]) ((kc 12).trans hF6.c12) b13 b1 ((kc 14).trans hF6.c14) H7.out.c12 c13 c1 c14 H7.out.below (by omega) htl hcn (by omega) hn hsum HP.out
    · rw [if_pos hj, if_pos hj, if_pos hj, if_pos (by omega), if_pos (by omega), if_pos (by omega), Nat.zero_add]
      exact ⟨rfl, rfl, rfl⟩
    · rw [if_pos hj, if_pos hj, if_pos hj, if_pos (by omega), if_pos (by omega), if_pos (by omega), Nat.zero_add]
      exact ⟨rfl, rfl, rfl⟩
end Go.Proofs.Qxb6613648aFmt

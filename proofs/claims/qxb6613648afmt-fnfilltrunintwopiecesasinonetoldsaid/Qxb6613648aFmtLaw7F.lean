/-
  FnFillTrunLaysOutTheRun: the run is filled.
-/
import Derived.Test.Qxb6613648aFmtLaw7L
import Derived.Test.Qxb6613648aFmtFAll
import Derived.Test.Qxb6613648aFmtRAll
import Derived.Test.Qxb6613648aFmtModel
namespace Go.Proofs.Qxb6613648aFmt
open Go.RowKit
set_option linter.unusedVariables false
set_option linter.unusedSimpArgs false
attribute [local go_sem] setCell_drewN alloc_drewN

theorem oth3 {w : World} {D i j k : Nat} (a b c : Value) : Oth D w (((w.setCell ⟨D, i, none⟩ a).setCell ⟨D, j, none⟩ b).setCell ⟨D, k, none⟩ c) :=
  ⟨fun n _ hn => by rw [Below.heap_setCell _ _ _ _ hn, Below.heap_setCell _ _ _ _ hn, Below.heap_setCell _ _ _ _ hn], Nat.le_of_eq (by simp [World.setCell]), fun N hN _ => (((Below.refl N w).setCell hN _).setCell hN _).setCell hN _⟩

set_option maxRecDepth 1000000 in
set_option maxHeartbeats 8000000 in
theorem l7_26 (fb mb rb tb sb P len qb cp cn e0 v F dbx mbk dl wb D : Nat) (far left a sa fa sz x fl fs en : Int) (hs b hf ok dc fhs fhf : Bool) (B : Nat → Int) (post : Ending → World → Prop) (wX wA : World) (u2 u3 u4 u5 u6 u8 u9 u10 u11 u13 u14 u15 u16 u18 u19 u20 u22 u25 u26 u27 u28 u29 u30 u31 u32 u33 u34 u35 u36 u37 u38 u39 u40 u41 u42 u43 u44 u45 u46 u47 u48 u49 u50 u51 u52 u53 u54 u55 u56 u57 u58 u59 u60 u61 u62 u63 u64 u65 u66 u67 u68 u69 u70 u71 u72 u73 u74 u75 u76 u77 u78 u79 u80 u81 u82 u83 u84 u85 u86 u87 u88 u89 u90 u91 u92 u93 u94 u95 u96 u97 u98 u99 u100 u101 u102 u103 u104 u105 u106 u107 u108 u109 u110 u111 u112 u113 u114 u115 u116 u117 u118 u119 u120 u121 u122 u123 u124 u125 u126 u127 u128 u129 u130 u131 u132 u133 u134 u135 u136 u137 u138 u139 u140 u141 u142 u143 u144 u145 u146 u147 u148 u149 u150 u151 u152 u153 u154 u155 u156 u157 u158 u159 u160 u161 u162 u163 u164 u165 u166 u167 u168 u169 u170 u171 u172 u173 u174 u175 u176 u177 u178 u179 u180 u181 u182 u183 u184 u185 u186 u187 u188 u189 u190 u191 u192 u193 u194 u195 u196 u197 u198 u199 u200 u201 u202 u203 u204 u205 u206 u207 u208 u209 u210 u211 u212 u213 u214 u215 u216 u217 u218 u219 u220 u221 u222 u223 u224 u225 u226 u227 u228 u229 u230 u231 u232 u233 u234 u235 u236 u237 u238 u239 u240 u241 u242 u243 u244 u245 u246 u247 u248 u249 u250 u251 u252 u253 u254 u255 u256 u257 u258 u259 u260 u261 u262 u263 u264 u265 u266 u267 u268 u269 u270 u271 u272 u273 u274 u275 u276 u277 u278 u279 u280 u281 u282 u283 u284 u285 u286 u287 u288 u289 u290 : Value)
    (hX : Row wX F len B ∧ wX.heap[dbx]? = some (.cells #[.int .u32 sz, .int .u32 fl, .bool hs, .bool hf] 27 (0, 0)) ∧ wX.heap[mbk]? = some (.cells #[.bool ok, .bool dc, .int .i64 cn, .int .i64 a, .int .i64 e0, .int .i64 en, .int .i64 v, .int .i64 sa, .int .i64 fa, .int .u32 fs, .int .u32 x, .bool fhs, .bool fhf] 57 (0, 0))) (hF : FW fb mb rb tb sb P len qb cp cn e0 v wX.heap.size wb D dl far left a sa fa sz x fl hs b hf B wX wA wA 0 0 0 (fun _ => (-1 : Int)) (fun _ => (-1 : Int)) (fun _ => true)) (hNw : wX.heap.size ≤ wb) (hND : wX.heap.size ≤ D)
    (hdl : dl ≤ 65536) (hcn0 : 0 < cn) (hcn : cn ≤ 65536) (hv : v ≤ 16) (hen : e0 + cn * v ≤ len) (hlen : len ≤ 1048576) (hsa : 0 ≤ sa → sa + 4 ≤ v) (hfa : 0 ≤ fa → fa + 4 ≤ v) (hB : Byte B) (hsz0 : 0 ≤ sz) (hsz1 : sz ≤ 4294967295) (hx0 : 0 ≤ x) (hx1 : x ≤ 4294967295) (hfl0 : 0 ≤ fl) (hfl1 : fl ≤ 4294967295) (ha0 : -2147483648 ≤ a) (ha1 : a ≤ 4611686020574871552) (hf0 : 0 ≤ far) (hf1 : far ≤ 4611686018427387904)
    (hpost : ∀ w', Below wX.heap.size wX w' → post (.returned (.bool true)) w') :
    Code.wp Tryf.prog ((Tryf.f7.body.bind (fromReg 26)).getD .skip) (bodyPost Tryf.prog Tryf.f7 post) ⟨#[.slice (some ⟨F, 0, none⟩) len len, .int .i64 far, u2, u3, u4, u5, u6, .int .i64 dl, u8, u9, u10, u11, .pointer (some ⟨dbx, 0, none⟩), u13, u14, u15, u16, .pointer (some ⟨mbk, 0, none⟩), u18, u19, u20, .int .i64 (offAt far a (szOf B e0 v sa sz) cn), u22, .pointer (some ⟨wb, 0, none⟩), .slice (some ⟨D, 0, none⟩) dl dl, u25, u26, u27, u28, u29, u30, u31, u32, u33, u34, u35, u36, u37, u38, u39, u40, u41, u42, u43, u44, u45, u46, u47, u48, u49, u50, u51, u52, u53, u54, u55, u56, u57, u58, u59, u60, u61, u62, u63, u64, u65, u66, u67, u68, u69, u70, u71, u72, u73, u74, u75, u76, u77, u78, u79, u80, u81, u82, u83, u84, u85, u86, u87, u88, u89, u90, u91, u92, u93, u94, u95, u96, u97, u98, u99, u100, u101, u102, u103, u104, u105, u106, u107, u108, u109, u110, u111, u112, u113, u114, u115, u116, u117, u118, u119, u120, u121, u122, u123, u124, u125, u126, u127, u128, u129, u130, u131, u132, u133, u134, u135, u136, u137, u138, u139, u140, u141, u142, u143, u144, u145, u146, u147, u148, u149, u150, u151, u152, u153, u154, u155, u156, u157, u158, u159, u160, u161, u162, u163, u164, u165, u166, u167, u168, u169, u170, u171, u172, u173, u174, u175, u176, u177, u178, u179, u180, u181, u182, u183, u184, u185, u186, u187, u188, u189, u190, u191, u192, u193, u194, u195, u196, u197, u198, u199, u200, u201, u202, u203, u204, u205, u206, u207, u208, u209, u210, u211, u212, u213, u214, u215, u216, u217, u218, u219, u220, u221, u222, u223, u224, u225, u226, u227, u228, u229, u230, u231, u232, u233, u234, u235, u236, u237, u238, u239, u240, u241, u242, u243, u244, u245, u246, u247, u248, u249, u250, u251, u252, u253, u254, u255, u256, u257, u258, u259, u260, u261, u262, u263, u264, u265, u266, u267, u268, u269, u270, u271, u272, u273, u274, u275, u276, u277, u278, u279, u280, u281, u282, u283, u284, u285, u286, u287, u288, u289, u290], []⟩ wA := by
  have HX : Hid (Row wX F len B ∧ wX.heap[dbx]? = some (.cells #[.int .u32 sz, .int .u32 fl, .bool hs, .bool hf] 27 (0, 0)) ∧ wX.heap[mbk]? = some (.cells #[.bool ok, .bool dc, .int .i64 cn, .int .i64 a, .int .i64 e0, .int .i64 en, .int .i64 v, .int .i64 sa, .int .i64 fa, .int .u32 fs, .int .u32 x, .bool fhs, .bool fhf] 57 (0, 0))) := hX
  have HF : Hid (FW fb mb rb tb sb P len qb cp cn e0 v wX.heap.size wb D dl far left a sa fa sz x fl hs b hf B wX wA wA 0 0 0 (fun _ => (-1 : Int)) (fun _ => (-1 : Int)) (fun _ => true)) := hF
  have HNu : Hid ((0 ≤ sa → sa + 4 ≤ v) ∧ (0 ≤ fa → fa + 4 ≤ v) ∧ e0 + cn * v ≤ len ∧ Byte B) := ⟨hsa, hfa, hen, hB⟩
  have HP : Hid (∀ w', Below wX.heap.size wX w' → post (.returned (.bool true)) w') := hpost
  obtain ⟨n, hn⟩ : ∃ n, n = min dl cn := ⟨_, rfl⟩
  have HN : Hid (n = min dl cn) := hn
  have hnI : min (dl : Int) (cn : Int) = n := by omega
  have hnd : n ≤ 65536 := by omega
  clear hX hF hsa hfa hen hB hpost hn
  conv => arg 2; whnf
  go_wp2_with fail
  obtain ⟨n1, n2, n3, n4⟩ := HNu.out
  refine (zzFill_any fb mb rb tb sb P len qb cp cn e0 v wX.heap.size wb D dl far left a sa fa sz x fl hs b hf B wX wA 0 0 0 (fun _ => (-1 : Int)) (fun _ => (-1 : Int)) (fun _ => true) wA HF.out (fun h => absurd h (by omega)) hNw hND hcn0 hcn (by omega) (by omega) hv n3 hlen n1 n2 n4 hsz0 hsz1 hx0 hx1 hfl0 hfl1 ha0 ha1 hf0 hf1 n (by have := HN.out; omega)).mono ?_
  rintro e w2 ⟨rfl, h2⟩
  have H2 : Hid (FW fb mb rb tb sb P len qb cp cn e0 v wX.heap.size wb D dl far left a sa fa sz x fl hs b hf B wX wA w2 (0 + n) (0 + n) (if n = 0 then 0 else offAt far a (szOf B e0 v sa sz) (0 + n)) (fun j => if j < n then offAt far a (szOf B e0 v sa sz) (0 + j) else -1) (fun j => if j < n then (szOf B e0 v sa sz) (0 + j) else -1) (fun j => if j < n then (bits .and .u32 ((fgOf B e0 v fa x fl) (0 + j)) 65536 == 0) else true)) := h2
  have mm : w2.heap[mbk]? = some (.cells #[.bool ok, .bool dc, .int .i64 cn, .int .i64 a, .int .i64 e0, .int .i64 en, .int .i64 v, .int .i64 sa, .int .i64 fa, .int .u32 fs, .int .u32 x, .bool fhs, .bool fhf] 57 (0, 0)) := (h2.below.block mbk (lt_of_block HX.out.2.2)).trans HX.out.2.2
  have m2 : w2.cell? ⟨mbk, 2, none⟩ = some (.int .i64 cn) := by simp [World.cell?, mm]
  clear h2 n1 n2 n3 n4 mm
  go_wp2_with fail
  refine (minInt_any dl cn w2).mono ?_
  rintro e w3 ⟨rfl, hw3⟩
  obtain rfl := hw3.symm
  rw [hnI]
  clear hnI
  go_upto_region 30 with fail
  go_cut [29] (fun s wx => s = .int .i64 0 ∧ wx = w2)
  case first =>
    go_wp2
    go_meet
    exact ⟨rfl, rfl⟩
  case rest =>
    rename_i KB hKB
    obtain ⟨rfl, rfl⟩ := hcut
    refine hKB _ _ ?_
    obtain ⟨n1, n2, n3, n4⟩ := HNu.out
    exact l7_31 fb mb rb tb sb P len qb cp cn e0 v F dbx mbk dl wb D n far left a sa fa sz x fl fs en hs b hf ok dc fhs fhf B post wX wA _ _ _ _ _ _ _ _ _ _ _ _ _ _ _ _ _ _ _ _ _ _ _ _ _ _ _ _ _ _ _ _ _ _ _ _ _ _ _ _ _ _ _ _ _ _ _ _ _ _ _ _ _ _ _ _ _ _ _ _ _ _ _ _ _ _ _ _ _ _ _ _ _ _ _ _ _ _ _ _ _ _ _ _ _ _ _ _ _ _ _ _ _ _ _ _ _ _ _ _ _ _ _ _ _ _ _ _ _ _ _ _ _ _ _ _ _ _ _ _ _ _ _ _ _ _ _ _ _ _ _ _ _ _ _ _ _ _ _ _ _ _ _ _ _ _ _ _ _ _ _ _ _ _ _ _ _ _ _ _ _ _ _ _ _ _ _ _ _ _ _ _ _ _ _ _ _ _ _ _ _ _ _ _ _ _ _ _ _ _ _ _ _ _ _ _ _ _ _ _ _ _ _ _ _ _ _ _ _ _ _ _ _ _ _ _ _ _ _ _ _ _ _ _ _ _ _ _ _ _ _ _ _ _ _ _ _ _ _ _ _ _ _ _ _ _ _ _ _ _ _ _ _ _ _ _ _ _ _ _ _ _ _ _ _ _ _ _ _ _ _ _ _ _ _ _ _ _ _ _ _ _ HX.out H2.out hNw hND HN.out hdl hcn0 hcn hv n3 hlen n1 n2 n4 hsz0 hsz1 hx0 hx1 hfl0 hfl1 ha0 ha1 hf0 hf1 HP.out

set_option maxRecDepth 1000000 in
set_option maxHeartbeats 8000000 in
theorem l7_21 (fb mb rb tb sb P len qb cp cn e0 v F dbx mbk dl wb D : Nat) (far left a sa fa sz x fl fs en : Int) (hs b hf ok dc fhs fhf : Bool) (B : Nat → Int) (post : Ending → World → Prop) (wX wA : World) (u2 u3 u4 u5 u6 u8 u9 u10 u11 u13 u14 u15 u16 u18 u19 u20 u22 u25 u26 u27 u28 u29 u30 u31 u32 u33 u34 u35 u36 u37 u38 u39 u40 u41 u42 u43 u44 u45 u46 u47 u48 u49 u50 u51 u52 u53 u54 u55 u56 u57 u58 u59 u60 u61 u62 u63 u64 u65 u66 u67 u68 u69 u70 u71 u72 u73 u74 u75 u76 u77 u78 u79 u80 u81 u82 u83 u84 u85 u86 u87 u88 u89 u90 u91 u92 u93 u94 u95 u96 u97 u98 u99 u100 u101 u102 u103 u104 u105 u106 u107 u108 u109 u110 u111 u112 u113 u114 u115 u116 u117 u118 u119 u120 u121 u122 u123 u124 u125 u126 u127 u128 u129 u130 u131 u132 u133 u134 u135 u136 u137 u138 u139 u140 u141 u142 u143 u144 u145 u146 u147 u148 u149 u150 u151 u152 u153 u154 u155 u156 u157 u158 u159 u160 u161 u162 u163 u164 u165 u166 u167 u168 u169 u170 u171 u172 u173 u174 u175 u176 u177 u178 u179 u180 u181 u182 u183 u184 u185 u186 u187 u188 u189 u190 u191 u192 u193 u194 u195 u196 u197 u198 u199 u200 u201 u202 u203 u204 u205 u206 u207 u208 u209 u210 u211 u212 u213 u214 u215 u216 u217 u218 u219 u220 u221 u222 u223 u224 u225 u226 u227 u228 u229 u230 u231 u232 u233 u234 u235 u236 u237 u238 u239 u240 u241 u242 u243 u244 u245 u246 u247 u248 u249 u250 u251 u252 u253 u254 u255 u256 u257 u258 u259 u260 u261 u262 u263 u264 u265 u266 u267 u268 u269 u270 u271 u272 u273 u274 u275 u276 u277 u278 u279 u280 u281 u282 u283 u284 u285 u286 u287 u288 u289 u290 : Value)
    (hX : Row wX F len B ∧ wX.heap[dbx]? = some (.cells #[.int .u32 sz, .int .u32 fl, .bool hs, .bool hf] 27 (0, 0)) ∧ wX.heap[mbk]? = some (.cells #[.bool ok, .bool dc, .int .i64 cn, .int .i64 a, .int .i64 e0, .int .i64 en, .int .i64 v, .int .i64 sa, .int .i64 fa, .int .u32 fs, .int .u32 x, .bool fhs, .bool fhf] 57 (0, 0))) (hbl : Below wX.heap.size wX wA)
    (hrt : RT wA fb mb rb tb sb P len far left B (.slice (some ⟨qb, 0, none⟩) 1 cp) cn) (htr : TrunAt wA qb #[.int .i64 a, .int .i64 e0, .int .i64 cn, .int .i64 v, .int .i64 sa, .int .i64 fa, .int .u32 sz, .int .u32 x, .bool hs, .bool b, .int .u32 sz, .int .u32 fl, .bool hs, .bool hf]) (hwb : wA.heap[wb]? = some (.cells #[.pointer (some ⟨sb, 0, none⟩), .int .i64 0, .int .i64 0, .int .u64 0, .int .u32 0, .int .u32 0, .int .u32 0, .int .u64 0, .int .u32 0, .int .u32 0, .int .i64 0, .int .u64 0, .int .i64 0, .int .i64 0, .int .i64 0, .slice none 0 0, .int .i64 0, .int .i64 0, .int .i64 0, .slice none 0 0, .int .i64 0, .int .i64 0, .int .i64 0, .slice none 0 0, .int .i64 0, .int .i64 0, .int .i64 0, .slice none 0 0, .int .i64 0, .int .i64 0, .int .i64 0, .slice none 0 0, .int .i64 0, .int .i64 0, .int .i64 0] 138 (0, 0))) (hD : SRow wA D dl (fun _ => 0) (fun _ => 0) (fun _ => false)) (hNw : wX.heap.size ≤ wb) (hND : wX.heap.size ≤ D)
    (hdl : dl ≤ 65536) (hcn0 : 0 < cn) (hcn : cn ≤ 65536) (hv : v ≤ 16) (hen : e0 + cn * v ≤ len) (hlen : len ≤ 1048576) (hsa : 0 ≤ sa → sa + 4 ≤ v) (hfa : 0 ≤ fa → fa + 4 ≤ v) (hB : Byte B) (hsz0 : 0 ≤ sz) (hsz1 : sz ≤ 4294967295) (hx0 : 0 ≤ x) (hx1 : x ≤ 4294967295) (hfl0 : 0 ≤ fl) (hfl1 : fl ≤ 4294967295) (ha0 : -2147483648 ≤ a) (ha1 : a ≤ 4611686020574871552) (hf0 : 0 ≤ far) (hf1 : far ≤ 4611686018427387904)
    (hpost : ∀ w', Below wX.heap.size wX w' → post (.returned (.bool true)) w') :
    Code.wp Tryf.prog ((Tryf.f7.body.bind (fromReg 21)).getD .skip) (bodyPost Tryf.prog Tryf.f7 post) ⟨#[.slice (some ⟨F, 0, none⟩) len len, .int .i64 far, u2, u3, u4, u5, u6, .int .i64 dl, u8, u9, u10, u11, .pointer (some ⟨dbx, 0, none⟩), u13, u14, u15, u16, .pointer (some ⟨mbk, 0, none⟩), u18, u19, u20, .int .i64 (offAt far a (szOf B e0 v sa sz) cn), u22, .pointer (some ⟨wb, 0, none⟩), .slice (some ⟨D, 0, none⟩) dl dl, u25, u26, u27, u28, u29, u30, u31, u32, u33, u34, u35, u36, u37, u38, u39, u40, u41, u42, u43, u44, u45, u46, u47, u48, u49, u50, u51, u52, u53, u54, u55, u56, u57, u58, u59, u60, u61, u62, u63, u64, u65, u66, u67, u68, u69, u70, u71, u72, u73, u74, u75, u76, u77, u78, u79, u80, u81, u82, u83, u84, u85, u86, u87, u88, u89, u90, u91, u92, u93, u94, u95, u96, u97, u98, u99, u100, u101, u102, u103, u104, u105, u106, u107, u108, u109, u110, u111, u112, u113, u114, u115, u116, u117, u118, u119, u120, u121, u122, u123, u124, u125, u126, u127, u128, u129, u130, u131, u132, u133, u134, u135, u136, u137, u138, u139, u140, u141, u142, u143, u144, u145, u146, u147, u148, u149, u150, u151, u152, u153, u154, u155, u156, u157, u158, u159, u160, u161, u162, u163, u164, u165, u166, u167, u168, u169, u170, u171, u172, u173, u174, u175, u176, u177, u178, u179, u180, u181, u182, u183, u184, u185, u186, u187, u188, u189, u190, u191, u192, u193, u194, u195, u196, u197, u198, u199, u200, u201, u202, u203, u204, u205, u206, u207, u208, u209, u210, u211, u212, u213, u214, u215, u216, u217, u218, u219, u220, u221, u222, u223, u224, u225, u226, u227, u228, u229, u230, u231, u232, u233, u234, u235, u236, u237, u238, u239, u240, u241, u242, u243, u244, u245, u246, u247, u248, u249, u250, u251, u252, u253, u254, u255, u256, u257, u258, u259, u260, u261, u262, u263, u264, u265, u266, u267, u268, u269, u270, u271, u272, u273, u274, u275, u276, u277, u278, u279, u280, u281, u282, u283, u284, u285, u286, u287, u288, u289, u290], []⟩ wA := by
  have HX : Hid (Row wX F len B ∧ wX.heap[dbx]? = some (.cells #[.int .u32 sz, .int .u32 fl, .bool hs, .bool hf] 27 (0, 0)) ∧ wX.heap[mbk]? = some (.cells #[.bool ok, .bool dc, .int .i64 cn, .int .i64 a, .int .i64 e0, .int .i64 en, .int .i64 v, .int .i64 sa, .int .i64 fa, .int .u32 fs, .int .u32 x, .bool fhs, .bool fhf] 57 (0, 0)) ∧ Below wX.heap.size wX wA) := ⟨hX.1, hX.2.1, hX.2.2, hbl⟩
  have HR : Hid (RT wA fb mb rb tb sb P len far left B (.slice (some ⟨qb, 0, none⟩) 1 cp) cn ∧ TrunAt wA qb #[.int .i64 a, .int .i64 e0, .int .i64 cn, .int .i64 v, .int .i64 sa, .int .i64 fa, .int .u32 sz, .int .u32 x, .bool hs, .bool b, .int .u32 sz, .int .u32 fl, .bool hs, .bool hf] ∧ wA.heap[wb]? = some (.cells #[.pointer (some ⟨sb, 0, none⟩), .int .i64 0, .int .i64 0, .int .u64 0, .int .u32 0, .int .u32 0, .int .u32 0, .int .u64 0, .int .u32 0, .int .u32 0, .int .i64 0, .int .u64 0, .int .i64 0, .int .i64 0, .int .i64 0, .slice none 0 0, .int .i64 0, .int .i64 0, .int .i64 0, .slice none 0 0, .int .i64 0, .int .i64 0, .int .i64 0, .slice none 0 0, .int .i64 0, .int .i64 0, .int .i64 0, .slice none 0 0, .int .i64 0, .int .i64 0, .int .i64 0, .slice none 0 0, .int .i64 0, .int .i64 0, .int .i64 0] 138 (0, 0)) ∧ SRow wA D dl (fun _ => 0) (fun _ => 0) (fun _ => false)) := ⟨hrt, htr, hwb, hD⟩
  have HNu : Hid ((0 ≤ sa → sa + 4 ≤ v) ∧ (0 ≤ fa → fa + 4 ≤ v) ∧ e0 + cn * v ≤ len ∧ Byte B) := ⟨hsa, hfa, hen, hB⟩
  have HP : Hid (∀ w', Below wX.heap.size wX w' → post (.returned (.bool true)) w') := hpost
  have hXA : wX.heap.size ≤ wA.heap.size := hbl.size
  clear hX hbl hrt htr hsa hfa hen hB hpost hwb hD
  conv => arg 2; whnf
  conv => arg 4; zeta
  refine wp_seq_k fun KB hKB => ?_
  go_cut [25, 128, 129] (fun _ _ _ wx => Hid (SRow wx D dl (fun _ => (-1 : Int)) (fun _ => (-1 : Int)) (fun _ => true) ∧ Oth D wA wx))
  case first =>
    go_wp2_with fail
    go_loopw [25, 129] (fun _ i wr => ∃ k : Nat, k ≤ dl ∧ i = .int .i64 k ∧ Hid (SRow wr D dl (fun j => if j < k then (-1 : Int) else 0) (fun j => if j < k then (-1 : Int) else 0) (fun j => if j < k then true else false) ∧ Oth D wA wr)) (fun _ i _ => dl - (intOf i).toNat)
    case atStart => exact ⟨0, Nat.zero_le _, rfl, ⟨HR.out.2.2.2.congr2 (fun i _ => by simp) (fun i _ => by simp) (fun i _ => by simp), Oth.refl _ _⟩⟩
    case round =>
      obtain ⟨k, hk, rfl, HS⟩ := hrel
      by_cases hlt : k < dl
      · obtain ⟨x0, g0⟩ : ∃ u, wr.cell? ⟨D, k * 3, none⟩ = some u := ⟨_, (HS.out.1.cells hlt).1⟩
        obtain ⟨x1, g1⟩ : ∃ u, wr.cell? ⟨D, k * 3 + 1, none⟩ = some u := ⟨_, (HS.out.1.cells hlt).2.1⟩
        obtain ⟨x2, g2⟩ : ∃ u, wr.cell? ⟨D, k * 3 + 2, none⟩ = some u := ⟨_, (HS.out.1.cells hlt).2.2⟩
        have gf := HS.out.1.fz
        have HS2 : Hid (SRow (((wr.setCell ⟨D, k * 3, none⟩ (.int .i64 (-1))).setCell ⟨D, k * 3 + 1, none⟩ (.int .i64 (-1))).setCell ⟨D, k * 3 + 2, none⟩ (.bool true)) D dl (fun j => if j < k + 1 then (-1 : Int) else 0) (fun j => if j < k + 1 then (-1 : Int) else 0) (fun j => if j < k + 1 then true else false) ∧ Oth D wA (((wr.setCell ⟨D, k * 3, none⟩ (.int .i64 (-1))).setCell ⟨D, k * 3 + 1, none⟩ (.int .i64 (-1))).setCell ⟨D, k * 3 + 2, none⟩ (.bool true))) := by
          refine ⟨(HS.out.1.lay k (-1) (-1) true hlt).congr2 (fun i _ => ?_) (fun i _ => ?_) (fun i _ => ?_), HS.out.2.trans (oth3 _ _ _)⟩
          all_goals
            by_cases e : i = k
            · subst e; rw [if_pos rfl, if_pos (Nat.lt_succ_self _)]
            · rw [if_neg e]
              by_cases e2 : i < k
              · rw [if_pos e2, if_pos (by omega)]
              · rw [if_neg e2, if_neg (by omega)]
        clear HS
        go_wp2
        go_roundw
        case rel => exact ⟨k + 1, by omega, by go_num, HS2⟩
        case measure => simp [intOf]; omega
      · have HE : Hid (k = dl) := by show _ = _; omega
        go_wp2
        go_meet
        have hke := HE.out
        exact ⟨HS.out.1.congr2 (fun i hi => by rw [if_pos (by omega)]) (fun i hi => by rw [if_pos (by omega)]) (fun i hi => by rw [if_pos (by omega)]), HS.out.2⟩
  case rest =>
    have HC : Hid (SRow wc D dl (fun _ => (-1 : Int)) (fun _ => (-1 : Int)) (fun _ => true) ∧ Oth D wA wc) := hcut
    refine hKB _ _ ?_
    obtain ⟨n1, n2, n3, n4⟩ := HNu.out
    obtain ⟨dc0, d1, d2, d3⟩ := HR.out.2.2.2
    have hb2 : Below wX.heap.size wX wc := HX.out.2.2.2.trans (HC.out.2.below _ hND hXA)
    have hF : FW fb mb rb tb sb P len qb cp cn e0 v wX.heap.size wb D dl far left a sa fa sz x fl hs b hf B wX wc wc 0 0 0 (fun _ => (-1 : Int)) (fun _ => (-1 : Int)) (fun _ => true) := FW.start (wS := wX) (HR.out.1.oth HC.out.2 d1 (by decide)) (HR.out.2.1.blk (fun c f h => (HC.out.2.same qb (lt_of_block h) (cells_ne h d1 (by decide))).trans h)) hb2 ((HC.out.2.same wb (lt_of_block HR.out.2.2.1) (cells_ne HR.out.2.2.1 d1 (by decide))).trans HR.out.2.2.1) HC.out.1
    exact l7_26 fb mb rb tb sb P len qb cp cn e0 v F dbx mbk dl wb D far left a sa fa sz x fl fs en hs b hf ok dc fhs fhf B post wX _ _ _ _ _ _ _ _ _ _ _ _ _ _ _ _ _ _ _ _ _ _ _ _ _ _ _ _ _ _ _ _ _ _ _ _ _ _ _ _ _ _ _ _ _ _ _ _ _ _ _ _ _ _ _ _ _ _ _ _ _ _ _ _ _ _ _ _ _ _ _ _ _ _ _ _ _ _ _ _ _ _ _ _ _ _ _ _ _ _ _ _ _ _ _ _ _ _ _ _ _ _ _ _ _ _ _ _ _ _ _ _ _ _ _ _ _ _ _ _ _ _ _ _ _ _ _ _ _ _ _ _ _ _ _ _ _ _ _ _ _ _ _ _ _ _ _ _ _ _ _ _ _ _ _ _ _ _ _ _ _ _ _ _ _ _ _ _ _ _ _ _ _ _ _ _ _ _ _ _ _ _ _ _ _ _ _ _ _ _ _ _ _ _ _ _ _ _ _ _ _ _ _ _ _ _ _ _ _ _ _ _ _ _ _ _ _ _ _ _ _ _ _ _ _ _ _ _ _ _ _ _ _ _ _ _ _ _ _ _ _ _ _ _ _ _ _ _ _ _ _ _ _ _ _ _ _ _ _ _ _ _ _ _ _ _ _ _ _ _ _ _ _ _ _ _ _ _ _ _ _ _ _ _ ⟨HX.out.1, HX.out.2.1, HX.out.2.2.1⟩ hF hNw hND hdl hcn0 hcn hv n3 hlen n1 n2 n4 hsz0 hsz1 hx0 hx1 hfl0 hfl1 ha0 ha1 hf0 hf1 HP.out

set_option maxRecDepth 1000000 in
set_option maxHeartbeats 8000000 in
theorem l7_19 (fb mb rb tb sb P len qb cp cn e0 v F dbx mbk dl : Nat) (far left a sa fa sz x fl fs en : Int) (hs b hf ok dc fhs fhf : Bool) (B : Nat → Int) (post : Ending → World → Prop) (wX wA : World) (u2 u3 u4 u5 u6 u8 u9 u10 u11 u13 u14 u15 u16 u18 u19 u22 u23 u24 u25 u26 u27 u28 u29 u30 u31 u32 u33 u34 u35 u36 u37 u38 u39 u40 u41 u42 u43 u44 u45 u46 u47 u48 u49 u50 u51 u52 u53 u54 u55 u56 u57 u58 u59 u60 u61 u62 u63 u64 u65 u66 u67 u68 u69 u70 u71 u72 u73 u74 u75 u76 u77 u78 u79 u80 u81 u82 u83 u84 u85 u86 u87 u88 u89 u90 u91 u92 u93 u94 u95 u96 u97 u98 u99 u100 u101 u102 u103 u104 u105 u106 u107 u108 u109 u110 u111 u112 u113 u114 u115 u116 u117 u118 u119 u120 u121 u122 u123 u124 u125 u126 u127 u128 u129 u130 u131 u132 u133 u134 u135 u136 u137 u138 u139 u140 u141 u142 u143 u144 u145 u146 u147 u148 u149 u150 u151 u152 u153 u154 u155 u156 u157 u158 u159 u160 u161 u162 u163 u164 u165 u166 u167 u168 u169 u170 u171 u172 u173 u174 u175 u176 u177 u178 u179 u180 u181 u182 u183 u184 u185 u186 u187 u188 u189 u190 u191 u192 u193 u194 u195 u196 u197 u198 u199 u200 u201 u202 u203 u204 u205 u206 u207 u208 u209 u210 u211 u212 u213 u214 u215 u216 u217 u218 u219 u220 u221 u222 u223 u224 u225 u226 u227 u228 u229 u230 u231 u232 u233 u234 u235 u236 u237 u238 u239 u240 u241 u242 u243 u244 u245 u246 u247 u248 u249 u250 u251 u252 u253 u254 u255 u256 u257 u258 u259 u260 u261 u262 u263 u264 u265 u266 u267 u268 u269 u270 u271 u272 u273 u274 u275 u276 u277 u278 u279 u280 u281 u282 u283 u284 u285 u286 u287 u288 u289 u290 : Value)
    (hX : Row wX F len B ∧ wX.heap[dbx]? = some (.cells #[.int .u32 sz, .int .u32 fl, .bool hs, .bool hf] 27 (0, 0)) ∧ wX.heap[mbk]? = some (.cells #[.bool ok, .bool dc, .int .i64 cn, .int .i64 a, .int .i64 e0, .int .i64 en, .int .i64 v, .int .i64 sa, .int .i64 fa, .int .u32 fs, .int .u32 x, .bool fhs, .bool fhf] 57 (0, 0))) (hbl : Below wX.heap.size wX wA)
    (hrt : RT wA fb mb rb tb sb P len far left B (.slice (some ⟨qb, 0, none⟩) 1 cp) cn) (htr : TrunAt wA qb #[.int .i64 a, .int .i64 e0, .int .i64 cn, .int .i64 v, .int .i64 sa, .int .i64 fa, .int .u32 sz, .int .u32 x, .bool hs, .bool b, .int .u32 sz, .int .u32 fl, .bool hs, .bool hf])
    (hdl : dl ≤ 65536) (hcn0 : 0 < cn) (hcn : cn ≤ 65536) (hv : v ≤ 16) (hen : e0 + cn * v ≤ len) (hlen : len ≤ 1048576) (hsa : 0 ≤ sa → sa + 4 ≤ v) (hfa : 0 ≤ fa → fa + 4 ≤ v) (hB : Byte B) (hsz0 : 0 ≤ sz) (hsz1 : sz ≤ 4294967295) (hx0 : 0 ≤ x) (hx1 : x ≤ 4294967295) (hfl0 : 0 ≤ fl) (hfl1 : fl ≤ 4294967295) (ha0 : -2147483648 ≤ a) (ha1 : a ≤ 4611686020574871552) (hf0 : 0 ≤ far) (hf1 : far ≤ 4611686018427387904)
    (hpost : ∀ w', Below wX.heap.size wX w' → post (.returned (.bool true)) w') :
    Code.wp Tryf.prog ((Tryf.f7.body.bind (fromReg 19)).getD .skip) (bodyPost Tryf.prog Tryf.f7 post) ⟨#[.slice (some ⟨F, 0, none⟩) len len, .int .i64 far, u2, u3, u4, u5, u6, .int .i64 dl, u8, u9, u10, u11, .pointer (some ⟨dbx, 0, none⟩), u13, u14, u15, u16, .pointer (some ⟨mbk, 0, none⟩), u18, u19, .pointer (some ⟨tb, 0, none⟩), .int .i64 (offAt far a (szOf B e0 v sa sz) cn), u22, u23, u24, u25, u26, u27, u28, u29, u30, u31, u32, u33, u34, u35, u36, u37, u38, u39, u40, u41, u42, u43, u44, u45, u46, u47, u48, u49, u50, u51, u52, u53, u54, u55, u56, u57, u58, u59, u60, u61, u62, u63, u64, u65, u66, u67, u68, u69, u70, u71, u72, u73, u74, u75, u76, u77, u78, u79, u80, u81, u82, u83, u84, u85, u86, u87, u88, u89, u90, u91, u92, u93, u94, u95, u96, u97, u98, u99, u100, u101, u102, u103, u104, u105, u106, u107, u108, u109, u110, u111, u112, u113, u114, u115, u116, u117, u118, u119, u120, u121, u122, u123, u124, u125, u126, u127, u128, u129, u130, u131, u132, u133, u134, u135, u136, u137, u138, u139, u140, u141, u142, u143, u144, u145, u146, u147, u148, u149, u150, u151, u152, u153, u154, u155, u156, u157, u158, u159, u160, u161, u162, u163, u164, u165, u166, u167, u168, u169, u170, u171, u172, u173, u174, u175, u176, u177, u178, u179, u180, u181, u182, u183, u184, u185, u186, u187, u188, u189, u190, u191, u192, u193, u194, u195, u196, u197, u198, u199, u200, u201, u202, u203, u204, u205, u206, u207, u208, u209, u210, u211, u212, u213, u214, u215, u216, u217, u218, u219, u220, u221, u222, u223, u224, u225, u226, u227, u228, u229, u230, u231, u232, u233, u234, u235, u236, u237, u238, u239, u240, u241, u242, u243, u244, u245, u246, u247, u248, u249, u250, u251, u252, u253, u254, u255, u256, u257, u258, u259, u260, u261, u262, u263, u264, u265, u266, u267, u268, u269, u270, u271, u272, u273, u274, u275, u276, u277, u278, u279, u280, u281, u282, u283, u284, u285, u286, u287, u288, u289, u290], []⟩ wA := by
  have HX : Hid (Row wX F len B ∧ wX.heap[dbx]? = some (.cells #[.int .u32 sz, .int .u32 fl, .bool hs, .bool hf] 27 (0, 0)) ∧ wX.heap[mbk]? = some (.cells #[.bool ok, .bool dc, .int .i64 cn, .int .i64 a, .int .i64 e0, .int .i64 en, .int .i64 v, .int .i64 sa, .int .i64 fa, .int .u32 fs, .int .u32 x, .bool fhs, .bool fhf] 57 (0, 0)) ∧ Below wX.heap.size wX wA) := ⟨hX.1, hX.2.1, hX.2.2, hbl⟩
  have HR : Hid (RT wA fb mb rb tb sb P len far left B (.slice (some ⟨qb, 0, none⟩) 1 cp) cn ∧ TrunAt wA qb #[.int .i64 a, .int .i64 e0, .int .i64 cn, .int .i64 v, .int .i64 sa, .int .i64 fa, .int .u32 sz, .int .u32 x, .bool hs, .bool b, .int .u32 sz, .int .u32 fl, .bool hs, .bool hf]) := ⟨hrt, htr⟩
  have HNu : Hid ((0 ≤ sa → sa + 4 ≤ v) ∧ (0 ≤ fa → fa + 4 ≤ v) ∧ e0 + cn * v ≤ len ∧ Byte B) := ⟨hsa, hfa, hen, hB⟩
  have HP : Hid (∀ w', Below wX.heap.size wX w' → post (.returned (.bool true)) w') := hpost
  have t3 : wA.cell? ⟨tb, 3, none⟩ = some (.pointer (some ⟨sb, 0, none⟩)) := by simp [World.cell?, hrt.tbh]
  have hmk := mk_samples dl (by omega)
  have hXA : wX.heap.size ≤ wA.heap.size := hbl.size
  have HA1 : Hid (Below wA.heap.size wA (wA.alloc (.cells #[.pointer (some ⟨sb, 0, none⟩), .int .i64 0, .int .i64 0, .int .u64 0, .int .u32 0, .int .u32 0, .int .u32 0, .int .u64 0, .int .u32 0, .int .u32 0, .int .i64 0, .int .u64 0, .int .i64 0, .int .i64 0, .int .i64 0, .slice none 0 0, .int .i64 0, .int .i64 0, .int .i64 0, .slice none 0 0, .int .i64 0, .int .i64 0, .int .i64 0, .slice none 0 0, .int .i64 0, .int .i64 0, .int .i64 0, .slice none 0 0, .int .i64 0, .int .i64 0, .int .i64 0, .slice none 0 0, .int .i64 0, .int .i64 0, .int .i64 0] 138)) ∧ (wA.alloc (.cells #[.pointer (some ⟨sb, 0, none⟩), .int .i64 0, .int .i64 0, .int .u64 0, .int .u32 0, .int .u32 0, .int .u32 0, .int .u64 0, .int .u32 0, .int .u32 0, .int .i64 0, .int .u64 0, .int .i64 0, .int .i64 0, .int .i64 0, .slice none 0 0, .int .i64 0, .int .i64 0, .int .i64 0, .slice none 0 0, .int .i64 0, .int .i64 0, .int .i64 0, .slice none 0 0, .int .i64 0, .int .i64 0, .int .i64 0, .slice none 0 0, .int .i64 0, .int .i64 0, .int .i64 0, .slice none 0 0, .int .i64 0, .int .i64 0, .int .i64 0] 138)).heap[wA.heap.size]? = some (.cells #[.pointer (some ⟨sb, 0, none⟩), .int .i64 0, .int .i64 0, .int .u64 0, .int .u32 0, .int .u32 0, .int .u32 0, .int .u64 0, .int .u32 0, .int .u32 0, .int .i64 0, .int .u64 0, .int .i64 0, .int .i64 0, .int .i64 0, .slice none 0 0, .int .i64 0, .int .i64 0, .int .i64 0, .slice none 0 0, .int .i64 0, .int .i64 0, .int .i64 0, .slice none 0 0, .int .i64 0, .int .i64 0, .int .i64 0, .slice none 0 0, .int .i64 0, .int .i64 0, .int .i64 0, .slice none 0 0, .int .i64 0, .int .i64 0, .int .i64 0] 138 (0, 0))) := ⟨(Below.refl _ _).alloc (Nat.le_refl _) _, alloc_new rfl⟩
  have HA2 : Hid (Below (wA.heap.size + 1) (wA.alloc (.cells #[.pointer (some ⟨sb, 0, none⟩), .int .i64 0, .int .i64 0, .int .u64 0, .int .u32 0, .int .u32 0, .int .u32 0, .int .u64 0, .int .u32 0, .int .u32 0, .int .i64 0, .int .u64 0, .int .i64 0, .int .i64 0, .int .i64 0, .slice none 0 0, .int .i64 0, .int .i64 0, .int .i64 0, .slice none 0 0, .int .i64 0, .int .i64 0, .int .i64 0, .slice none 0 0, .int .i64 0, .int .i64 0, .int .i64 0, .slice none 0 0, .int .i64 0, .int .i64 0, .int .i64 0, .slice none 0 0, .int .i64 0, .int .i64 0, .int .i64 0] 138)) ((wA.alloc (.cells #[.pointer (some ⟨sb, 0, none⟩), .int .i64 0, .int .i64 0, .int .u64 0, .int .u32 0, .int .u32 0, .int .u32 0, .int .u64 0, .int .u32 0, .int .u32 0, .int .i64 0, .int .u64 0, .int .i64 0, .int .i64 0, .int .i64 0, .slice none 0 0, .int .i64 0, .int .i64 0, .int .i64 0, .slice none 0 0, .int .i64 0, .int .i64 0, .int .i64 0, .slice none 0 0, .int .i64 0, .int .i64 0, .int .i64 0, .slice none 0 0, .int .i64 0, .int .i64 0, .int .i64 0, .slice none 0 0, .int .i64 0, .int .i64 0, .int .i64 0] 138)).alloc (.cells (madeCells #[.int .i64 0, .int .i64 0, .bool false] (dl * 3)) 78)) ∧ SRow ((wA.alloc (.cells #[.pointer (some ⟨sb, 0, none⟩), .int .i64 0, .int .i64 0, .int .u64 0, .int .u32 0, .int .u32 0, .int .u32 0, .int .u64 0, .int .u32 0, .int .u32 0, .int .i64 0, .int .u64 0, .int .i64 0, .int .i64 0, .int .i64 0, .slice none 0 0, .int .i64 0, .int .i64 0, .int .i64 0, .slice none 0 0, .int .i64 0, .int .i64 0, .int .i64 0, .slice none 0 0, .int .i64 0, .int .i64 0, .int .i64 0, .slice none 0 0, .int .i64 0, .int .i64 0, .int .i64 0, .slice none 0 0, .int .i64 0, .int .i64 0, .int .i64 0] 138)).alloc (.cells (madeCells #[.int .i64 0, .int .i64 0, .bool false] (dl * 3)) 78)) (wA.heap.size + 1) dl (fun _ => 0) (fun _ => 0) (fun _ => false)) := by
    refine ⟨(Below.refl _ _).alloc (by simp) _, ?_⟩
    have := SRow.made (wA.alloc (.cells #[.pointer (some ⟨sb, 0, none⟩), .int .i64 0, .int .i64 0, .int .u64 0, .int .u32 0, .int .u32 0, .int .u32 0, .int .u64 0, .int .u32 0, .int .u32 0, .int .i64 0, .int .u64 0, .int .i64 0, .int .i64 0, .int .i64 0, .slice none 0 0, .int .i64 0, .int .i64 0, .int .i64 0, .slice none 0 0, .int .i64 0, .int .i64 0, .int .i64 0, .slice none 0 0, .int .i64 0, .int .i64 0, .int .i64 0, .slice none 0 0, .int .i64 0, .int .i64 0, .int .i64 0, .slice none 0 0, .int .i64 0, .int .i64 0, .int .i64 0] 138)) dl
    rwa [show (wA.alloc (.cells #[.pointer (some ⟨sb, 0, none⟩), .int .i64 0, .int .i64 0, .int .u64 0, .int .u32 0, .int .u32 0, .int .u32 0, .int .u64 0, .int .u32 0, .int .u32 0, .int .i64 0, .int .u64 0, .int .i64 0, .int .i64 0, .int .i64 0, .slice none 0 0, .int .i64 0, .int .i64 0, .int .i64 0, .slice none 0 0, .int .i64 0, .int .i64 0, .int .i64 0, .slice none 0 0, .int .i64 0, .int .i64 0, .int .i64 0, .slice none 0 0, .int .i64 0, .int .i64 0, .int .i64 0, .slice none 0 0, .int .i64 0, .int .i64 0, .int .i64 0] 138)).heap.size = wA.heap.size + 1 by simp] at this
  clear hX hbl hrt htr hsa hfa hen hB hpost
  conv => arg 2; whnf
  go_wp2_with fail
  refine (newWalker_any tb sb wA t3).mono ?_
  rintro e w1 ⟨rfl, hw1⟩
  obtain ⟨D, hD⟩ : ∃ D, D = wA.heap.size + 1 := ⟨_, rfl⟩
  obtain ⟨w2, hw2⟩ : ∃ w2, w2 = (wA.alloc (.cells #[.pointer (some ⟨sb, 0, none⟩), .int .i64 0, .int .i64 0, .int .u64 0, .int .u32 0, .int .u32 0, .int .u32 0, .int .u64 0, .int .u32 0, .int .u32 0, .int .i64 0, .int .u64 0, .int .i64 0, .int .i64 0, .int .i64 0, .slice none 0 0, .int .i64 0, .int .i64 0, .int .i64 0, .slice none 0 0, .int .i64 0, .int .i64 0, .int .i64 0, .slice none 0 0, .int .i64 0, .int .i64 0, .int .i64 0, .slice none 0 0, .int .i64 0, .int .i64 0, .int .i64 0, .slice none 0 0, .int .i64 0, .int .i64 0, .int .i64 0] 138)).alloc (.cells (madeCells #[.int .i64 0, .int .i64 0, .bool false] (dl * 3)) 78) := ⟨_, rfl⟩
  have H2 : Hid (Below wX.heap.size wX w2 ∧ RT w2 fb mb rb tb sb P len far left B (.slice (some ⟨qb, 0, none⟩) 1 cp) cn ∧ TrunAt w2 qb #[.int .i64 a, .int .i64 e0, .int .i64 cn, .int .i64 v, .int .i64 sa, .int .i64 fa, .int .u32 sz, .int .u32 x, .bool hs, .bool b, .int .u32 sz, .int .u32 fl, .bool hs, .bool hf] ∧ w2.heap[wA.heap.size]? = some (.cells #[.pointer (some ⟨sb, 0, none⟩), .int .i64 0, .int .i64 0, .int .u64 0, .int .u32 0, .int .u32 0, .int .u32 0, .int .u64 0, .int .u32 0, .int .u32 0, .int .i64 0, .int .u64 0, .int .i64 0, .int .i64 0, .int .i64 0, .slice none 0 0, .int .i64 0, .int .i64 0, .int .i64 0, .slice none 0 0, .int .i64 0, .int .i64 0, .int .i64 0, .slice none 0 0, .int .i64 0, .int .i64 0, .int .i64 0, .slice none 0 0, .int .i64 0, .int .i64 0, .int .i64 0, .slice none 0 0, .int .i64 0, .int .i64 0, .int .i64 0] 138 (0, 0)) ∧ SRow w2 D dl (fun _ => 0) (fun _ => 0) (fun _ => false)) := by
    have b12 : Below wA.heap.size wA w2 := by rw [hw2]; exact HA1.out.1.trans (HA2.out.1.mono (by omega))
    refine ⟨HX.out.2.2.2.trans (b12.mono hXA), HR.out.1.step b12, HR.out.2.of_block (b12.block qb ?_), ?_, ?_⟩
    · obtain ⟨cq, q1, _⟩ := HR.out.2
      exact lt_of_block q1
    · rw [hw2]
      exact alloc_keep HA1.out.2
    · rw [hw2, hD]
      exact HA2.out.2
  have hs1 : w1.heap.size = D := by rw [hw1, hD]; simp
  have hmk1 : (Instr.makeSlice 76 (.int .i64 dl) (.int .i64 dl)).run Tryf.prog w1 = .ok (.slice (some ⟨D, 0, none⟩) dl dl) w2 := by rw [hmk w1, hs1, hw2, hw1]
  clear hmk HA1 HA2 hw2 hw1 t3
  go_upto_region 20 with fail
  go_cut [24] (fun s wx => s = .slice (some ⟨D, 0, none⟩) dl dl ∧ wx = w2)
  case first =>
    go_wp2
    go_meet
    exact ⟨by rw [hD], rfl⟩
  case rest =>
    rename_i KB hKB
    obtain ⟨rfl, rfl⟩ := hcut
    refine hKB _ _ ?_
    obtain ⟨h1, h2, h3, h4, h5⟩ := H2.out
    obtain ⟨n1, n2, n3, n4⟩ := HNu.out
    exact l7_21 fb mb rb tb sb P len qb cp cn e0 v F dbx mbk dl wA.heap.size D far left a sa fa sz x fl fs en hs b hf ok dc fhs fhf B post wX _ _ _ _ _ _ _ _ _ _ _ _ _ _ _ _ _ _ _ _ _ _ _ _ _ _ _ _ _ _ _ _ _ _ _ _ _ _ _ _ _ _ _ _ _ _ _ _ _ _ _ _ _ _ _ _ _ _ _ _ _ _ _ _ _ _ _ _ _ _ _ _ _ _ _ _ _ _ _ _ _ _ _ _ _ _ _ _ _ _ _ _ _ _ _ _ _ _ _ _ _ _ _ _ _ _ _ _ _ _ _ _ _ _ _ _ _ _ _ _ _ _ _ _ _ _ _ _ _ _ _ _ _ _ _ _ _ _ _ _ _ _ _ _ _ _ _ _ _ _ _ _ _ _ _ _ _ _ _ _ _ _ _ _ _ _ _ _ _ _ _ _ _ _ _ _ _ _ _ _ _ _ _ _ _ _ _ _ _ _ _ _ _ _ _ _ _ _ _ _ _ _ _ _ _ _ _ _ _ _ _ _ _ _ _ _ _ _ _ _ _ _ _ _ _ _ _ _ _ _ _ _ _ _ _ _ _ _ _ _ _ _ _ _ _ _ _ _ _ _ _ _ _ _ _ _ _ _ _ _ _ _ _ _ _ _ _ _ _ _ _ _ _ _ _ _ _ _ _ _ _ _ _ _ ⟨HX.out.1, HX.out.2.1, HX.out.2.2.1⟩ h1 h2 h3 h4 h5 hXA (by omega) hdl hcn0 hcn hv n3 hlen n1 n2 n4 hsz0 hsz1 hx0 hx1 hfl0 hfl1 ha0 ha1 hf0 hf1 HP.out
end Go.Proofs.Qxb6613648aFmt

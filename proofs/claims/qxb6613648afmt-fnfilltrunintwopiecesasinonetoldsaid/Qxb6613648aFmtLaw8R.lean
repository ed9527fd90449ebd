/-
  FnFillTrunInTwoPiecesAsInOne: the run is read.
-/
import Derived.Test.Qxb6613648aFmtLaw8F
namespace Go.Proofs.Qxb6613648aFmt
open Go.RowKit
set_option linter.unusedVariables false
set_option linter.unusedSimpArgs false
attribute [local go_sem] setCell_drewN alloc_drewN

set_option maxRecDepth 1000000 in
set_option maxHeartbeats 8000000 in
theorem l8_13 (len cn e0 v F bbx dbx mbk hd tl bd en : Nat) (far left a sa fa sz x fl fs en2 base next t0 t1 t2 t3 st : Int) (hs hf ok dc fhs fhf : Bool) (B : Nat → Int) (post : Ending → World → Prop) (wA : World) (u3 u4 u9 u10 u11 u14 u15 u16 u17 u18 u20 u21 u22 u23 u24 u25 u26 u27 u28 u29 u30 u31 u32 u33 u34 u35 u36 u37 u38 u39 u40 u41 u42 u43 u44 u45 u46 u47 u48 u49 u50 u51 u52 u53 u54 u55 u56 u57 u58 u59 u60 u61 u62 u63 u64 u65 u66 u67 u68 u69 u70 u71 u72 u73 u74 u75 u76 u77 u78 u79 u80 u81 u82 u83 u84 u85 u86 u87 u88 u89 u90 u91 u92 u93 u94 u95 u96 u97 u98 u99 u100 u101 u102 u103 u104 u105 u106 u107 u108 u109 u110 u111 u112 u113 u114 u115 u116 u117 u118 u119 u120 u121 u122 u123 u124 u125 u126 u127 u128 u129 u130 u131 u132 u133 u134 u135 u136 u137 u138 u139 u140 u141 u142 u143 u144 u145 u146 u147 u148 u149 u150 u151 u152 u153 u154 u155 u156 u157 u158 u159 u160 u161 u162 u163 u164 u165 u166 u167 u168 u169 u170 u171 u172 u173 u174 u175 u176 u177 u178 u179 u180 u181 u182 u183 u184 u185 u186 u187 u188 u189 u190 u191 u192 u193 u194 u195 u196 u197 u198 u199 u200 u201 u202 u203 u204 u205 u206 u207 u208 u209 u210 u211 u212 u213 u214 u215 u216 u217 u218 u219 u220 u221 u222 u223 u224 u225 u226 u227 u228 u229 u230 u231 u232 u233 u234 u235 u236 u237 u238 u239 u240 u241 u242 u243 u244 u245 u246 u247 u248 u249 u250 u251 u252 u253 u254 u255 u256 u257 u258 u259 u260 u261 : Value)
    (hA : Row wA F len B ∧ wA.heap[bbx]? = some (.cells #[.int .u8 t0, .int .u8 t1, .int .u8 t2, .int .u8 t3, .int .i64 st, .int .i64 bd, .int .i64 en] 32 (0, 0)) ∧ wA.heap[dbx]? = some (.cells #[.int .u32 sz, .int .u32 fl, .bool hs, .bool hf] 27 (0, 0)) ∧ wA.heap[mbk]? = some (.cells #[.bool ok, .bool dc, .int .i64 cn, .int .i64 a, .int .i64 e0, .int .i64 en2, .int .i64 v, .int .i64 sa, .int .i64 fa, .int .u32 fs, .int .u32 x, .bool fhs, .bool fhf] 57 (0, 0))) (hM : ((cn : Int) = be B (bd + 4) ∧ a = atOf B bd base next (be24 B bd) ∧ (e0 : Int) = bd + 4 + hdrOf (be24 B bd) ∧ (v : Int) = wdOf (be24 B bd) ∧ sa = saOf (be24 B bd) ∧ fa = faOf (be24 B bd) ∧ x = ffOf B bd fl (be24 B bd) ∧ (cn : Int) ≤ left ∧ (cn : Int) * v ≤ en - e0 ∧ e0 ≤ en ∧ (1 ≤ cn → (hs = true ∨ 0 ≤ sa) ∧ ((hasBit (be24 B bd) 4 || hf) = true ∨ 0 ≤ fa)) ∧ (2 ≤ cn → (hs = true ∨ 0 ≤ sa) ∧ (hf = true ∨ 0 ≤ fa))))
    (hcn : cn ≤ 65536) (hen : en ≤ len) (hlen : len ≤ 1048576) (hB : Byte B) (hsz0 : 0 ≤ sz) (hsz1 : sz ≤ 4294967295) (hfl0 : 0 ≤ fl) (hfl1 : fl ≤ 4294967295) (hf0 : 0 ≤ far) (hf1 : far ≤ 4611686018427387904) (hb0 : 0 ≤ base) (hb1 : base ≤ far) (hn0 : 0 ≤ next) (hn1 : next ≤ far) (hl1 : left ≤ 65536) (hhd : hd < cn) (htl : tl ≤ 65536)
    (hpost : ∀ w', Below wA.heap.size wA w' → post (.returned (.bool true)) w') :
    Code.wp Tryf.prog ((Tryf.f8.body.bind (fromReg 13)).getD .skip) (bodyPost Tryf.prog Tryf.f8 post) ⟨#[.slice (some ⟨F, 0, none⟩) len len, .int .i64 far, .int .u64 left, u3, u4, .int .i64 base, .int .i64 next, .int .i64 hd, .int .i64 tl, u9, u10, u11, .pointer (some ⟨bbx, 0, none⟩), .pointer (some ⟨dbx, 0, none⟩), u14, u15, u16, u17, u18, .pointer (some ⟨mbk, 0, none⟩), u20, u21, u22, u23, u24, u25, u26, u27, u28, u29, u30, u31, u32, u33, u34, u35, u36, u37, u38, u39, u40, u41, u42, u43, u44, u45, u46, u47, u48, u49, u50, u51, u52, u53, u54, u55, u56, u57, u58, u59, u60, u61, u62, u63, u64, u65, u66, u67, u68, u69, u70, u71, u72, u73, u74, u75, u76, u77, u78, u79, u80, u81, u82, u83, u84, u85, u86, u87, u88, u89, u90, u91, u92, u93, u94, u95, u96, u97, u98, u99, u100, u101, u102, u103, u104, u105, u106, u107, u108, u109, u110, u111, u112, u113, u114, u115, u116, u117, u118, u119, u120, u121, u122, u123, u124, u125, u126, u127, u128, u129, u130, u131, u132, u133, u134, u135, u136, u137, u138, u139, u140, u141, u142, u143, u144, u145, u146, u147, u148, u149, u150, u151, u152, u153, u154, u155, u156, u157, u158, u159, u160, u161, u162, u163, u164, u165, u166, u167, u168, u169, u170, u171, u172, u173, u174, u175, u176, u177, u178, u179, u180, u181, u182, u183, u184, u185, u186, u187, u188, u189, u190, u191, u192, u193, u194, u195, u196, u197, u198, u199, u200, u201, u202, u203, u204, u205, u206, u207, u208, u209, u210, u211, u212, u213, u214, u215, u216, u217, u218, u219, u220, u221, u222, u223, u224, u225, u226, u227, u228, u229, u230, u231, u232, u233, u234, u235, u236, u237, u238, u239, u240, u241, u242, u243, u244, u245, u246, u247, u248, u249, u250, u251, u252, u253, u254, u255, u256, u257, u258, u259, u260, u261], []⟩ wA := by
  obtain ⟨m1, m2, m3, m4, m5, m6, m7, m8, m9, m10, m11, m12⟩ := hM
  have hv : v ≤ 16 := by have := (saOf_bd (be24 B bd)).2.2.1; omega
  have hsv : 0 ≤ sa → sa + 4 ≤ v := fun h => by have := (saOf_bd (be24 B bd)).2.2.2; rw [← m5, ← m4] at this; exact this h
  have hfv : 0 ≤ fa → fa + 4 ≤ v := fun h => by have := fa_bd (be24 B bd); rw [← m6, ← m4] at this; exact this h
  have hrm : e0 + cn * v ≤ len := by
    have h1 : (cn : Int) * (v : Int) = ((cn * v : Nat) : Int) := by simp
    rw [h1] at m9
    omega
  have hab := at_bd (B := B) (bd := bd) (f := (be24 B bd)) hb0 hb1 hn0 hn1 hf1
  have hxb := ff_bd (B := B) (bd := bd) (f := (be24 B bd)) hB hfl0 hfl1
  rw [← m2] at hab
  rw [← m7] at hxb
  have HA : Hid (Row wA F len B ∧ wA.heap[bbx]? = some (.cells #[.int .u8 t0, .int .u8 t1, .int .u8 t2, .int .u8 t3, .int .i64 st, .int .i64 bd, .int .i64 en] 32 (0, 0)) ∧ wA.heap[dbx]? = some (.cells #[.int .u32 sz, .int .u32 fl, .bool hs, .bool hf] 27 (0, 0)) ∧ wA.heap[mbk]? = some (.cells #[.bool ok, .bool dc, .int .i64 cn, .int .i64 a, .int .i64 e0, .int .i64 en2, .int .i64 v, .int .i64 sa, .int .i64 fa, .int .u32 fs, .int .u32 x, .bool fhs, .bool fhf] 57 (0, 0))) := hA
  have HM : Hid ((cn : Int) = be B (bd + 4) ∧ a = atOf B bd base next (be24 B bd) ∧ (e0 : Int) = bd + 4 + hdrOf (be24 B bd) ∧ (v : Int) = wdOf (be24 B bd) ∧ sa = saOf (be24 B bd) ∧ fa = faOf (be24 B bd) ∧ x = ffOf B bd fl (be24 B bd) ∧ (cn : Int) ≤ left ∧ (cn : Int) * v ≤ en - e0 ∧ e0 ≤ en ∧ (1 ≤ cn → (hs = true ∨ 0 ≤ sa) ∧ ((hasBit (be24 B bd) 4 || hf) = true ∨ 0 ≤ fa)) ∧ (2 ≤ cn → (hs = true ∨ 0 ≤ sa) ∧ (hf = true ∨ 0 ≤ fa))) := ⟨m1, m2, m3, m4, m5, m6, m7, m8, m9, m10, m11, m12⟩
  have HNu : Hid ((0 ≤ sa → sa + 4 ≤ v) ∧ (0 ≤ fa → fa + 4 ≤ v) ∧ e0 + cn * v ≤ len ∧ Byte B) := ⟨hsv, hfv, hrm, hB⟩
  have HP : Hid (∀ w', Below wA.heap.size wA w' → post (.returned (.bool true)) w') := hpost
  clear hA m1 m2 m3 m4 m5 m6 m7 m8 m9 m10 m11 m12 hsv hfv hrm hB hpost
  conv => arg 2; whnf
  go_wp2_with fail
  refine (clone_some ⟨F, 0, none⟩ len len B wA hlen (.inr ⟨F, 0, rfl, HA.out.1.lt, HA.out.1.bytes⟩)).mono ?_
  rintro e w1 ⟨rfl, h1, h1b⟩
  obtain ⟨P, hP⟩ : ∃ P, P = wA.heap.size := ⟨_, rfl⟩
  rw [← hP] at h1
  rw [show (wA.heap.size) = P from hP.symm]
  have H1 : Hid (Row w1 P len B ∧ Below wA.heap.size wA w1) := ⟨h1, h1b⟩
  clear h1 h1b hP
  go_wp2_with fail
  refine (newFragment_any P len far left B w1 H1.out.1 hlen).mono ?_
  rintro e w2 ⟨fb, mb, rb, rfl, h2, h2m, h2b⟩
  have H2 : Hid (RD w2 fb mb rb P len far left B ∧ w1.heap.size ≤ mb ∧ Below w1.heap.size w1 w2) := ⟨h2, h2m, h2b⟩
  clear h2 h2m h2b
  go_wp2_with fail
  refine (newTrack_any fb mb rb P len far left B w2 H2.out.1).mono ?_
  rintro e w3 ⟨tb, sb, rfl, h3, h3s, h3b⟩
  have H3 : Hid (RT w3 fb mb rb tb sb P len far left B (.slice none 0 0) 0 ∧ w1.heap.size ≤ sb ∧ Below w1.heap.size w1 w3 ∧ Below wA.heap.size wA w3) := by
    have hb := H2.out.2.2.trans (h3b.mono H2.out.2.2.size)
    exact ⟨h3, Nat.le_trans H2.out.2.2.size h3s, hb, H1.out.2.trans (hb.mono H1.out.2.size)⟩
  have bb : w3.heap[bbx]? = some (.cells #[.int .u8 t0, .int .u8 t1, .int .u8 t2, .int .u8 t3, .int .i64 st, .int .i64 bd, .int .i64 en] 32 (0, 0)) := (H3.out.2.2.2.block _ (lt_of_block HA.out.2.1)).trans HA.out.2.1
  have dd : w3.heap[dbx]? = some (.cells #[.int .u32 sz, .int .u32 fl, .bool hs, .bool hf] 27 (0, 0)) := (H3.out.2.2.2.block _ (lt_of_block HA.out.2.2.1)).trans HA.out.2.2.1
  have bC : ∀ i, w3.cell? ⟨bbx, i, none⟩ = (#[.int .u8 t0, .int .u8 t1, .int .u8 t2, .int .u8 t3, .int .i64 st, .int .i64 bd, .int .i64 en] : Array Value)[i]? := fun i => by simp [World.cell?, bb]
  have dC : ∀ i, w3.cell? ⟨dbx, i, none⟩ = (#[.int .u32 sz, .int .u32 fl, .bool hs, .bool hf] : Array Value)[i]? := fun i => by simp [World.cell?, dd]
  clear h3 h3s h3b bb dd
  go_wp2_with fail
  obtain ⟨m1, m2, m3, m4, m5, m6, m7, m8, m9, m10, m11, m12⟩ := HM.out
  refine (zzRead_any w1.heap.size fb mb rb tb sb P len cn e0 bd en B base next far left sz fl t0 t1 t2 t3 st hs hf w1 w3 H3.out.1 H3.out.2.2.1 H3.out.2.1 H2.out.2.1 hen hlen HNu.out.2.2.2 hcn hsz0 hsz1 hf0 hf1 m8 hl1 m3 m10 m1 hb0 hb1 hn0 hn1 (by rw [← m4]; exact m9) (by rw [← m5, ← m6]; exact m11) (by rw [← m5, ← m6]; exact m12)).mono ?_
  rintro e w4 ⟨rfl, qb, cp, h4, h4t, h4b⟩
  rw [← m2, ← m4, ← m5, ← m6, ← m7] at h4t
  rw [← m2, ← m4, ← m5]
  have H4 : Hid (RT w4 fb mb rb tb sb P len far (left - cn) B (.slice (some ⟨qb, 0, none⟩) 1 cp) cn ∧ TrunAt w4 qb #[.int .i64 a, .int .i64 e0, .int .i64 cn, .int .i64 v, .int .i64 sa, .int .i64 fa, .int .u32 sz, .int .u32 x, .bool hs, .bool (hasBit (be24 B bd) 4 || hf), .int .u32 sz, .int .u32 fl, .bool hs, .bool hf] ∧ Below w1.heap.size w1 w4) := ⟨h4, h4t, h4b⟩
  have t3 : w4.cell? ⟨tb, 3, none⟩ = some (.pointer (some ⟨sb, 0, none⟩)) := by simp [World.cell?, h4.tbh]
  have s4 : w4.cell? ⟨sb, 4, none⟩ = some (.slice (some ⟨qb, 0, none⟩) 1 cp) := by simp [World.cell?, h4.sbh]
  clear h4 h4t h4b bC dC m1 m2 m3 m4 m5 m6 m7 m8 m9 m10 m11 m12
  go_upto_region 17 with fail
  go_cut [139] (fun s wx => s = .bool false ∧ wx = w4)
  case first =>
    go_wp2_with fail
    refine (trunCount_any tb sb 1 (some ⟨qb, 0, none⟩) cp w4 t3 s4).mono ?_
    rintro e w5 ⟨rfl, hw5⟩
    obtain rfl := hw5.symm
    go_wp2
    go_meet
    exact ⟨rfl, rfl⟩
  case rest =>
    rename_i KA hKA KB hKB
    obtain ⟨rfl, rfl⟩ := hcut
    refine hKB _ _ (wp_cond_false rfl (wp_skip (hKA _ _ ?_)))
    obtain ⟨n1, n2, n3, n4⟩ := HNu.out
    have hb1' := H1.out.2
    exact l8_19 fb mb rb tb sb P len qb cp cn e0 v mbk hd tl far (left - cn) a sa fa sz x fl fs en2 hs (hasBit (be24 B bd) 4 || hf) hf ok dc fhs fhf B post w1 _ _ _ _ _ _ _ _ _ _ _ _ _ _ _ _ _ _ _ _ _ _ _ _ _ _ _ _ _ _ _ _ _ _ _ _ _ _ _ _ _ _ _ _ _ _ _ _ _ _ _ _ _ _ _ _ _ _ _ _ _ _ _ _ _ _ _ _ _ _ _ _ _ _ _ _ _ _ _ _ _ _ _ _ _ _ _ _ _ _ _ _ _ _ _ _ _ _ _ _ _ _ _ _ _ _ _ _ _ _ _ _ _ _ _ _ _ _ _ _ _ _ _ _ _ _ _ _ _ _ _ _ _ _ _ _ _ _ _ _ _ _ _ _ _ _ _ _ _ _ _ _ _ _ _ _ _ _ _ _ _ _ _ _ _ _ _ _ _ _ _ _ _ _ _ _ _ _ _ _ _ _ _ _ _ _ _ _ _ _ _ _ _ _ _ _ _ _ _ _ _ _ _ _ _ _ _ _ _ _ _ _ _ _ _ _ _ _ _ _ _ _ _ _ _ _ _ _ _ _ _ _ _ _ _ _ _ _ _ _ _ _ _ _ _ _ _ _ _ _ _ _ _ _ _ _ _ _ _ ((hb1'.block _ (lt_of_block HA.out.2.2.2)).trans HA.out.2.2.2) H4.out.2.2 H4.out.1 H4.out.2.1 hhd htl hcn hv n3 hlen n1 n2 n4 hsz0 hsz1 hxb.1 hxb.2 hfl0 hfl1 hab.1 hab.2 hf0 hf1 (fun w' h => HP.out w' (hb1'.trans (h.mono hb1'.size)))
end Go.Proofs.Qxb6613648aFmt

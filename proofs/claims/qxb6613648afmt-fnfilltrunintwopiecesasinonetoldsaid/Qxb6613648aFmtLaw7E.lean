/-
  FnFillTrunLaysOutTheRun: its end.
-/
import Derived.Test.Qxb6613648aFmtLaw0
import Derived.Test.Qxb6613648aFmtFAll
import Derived.Test.Qxb6613648aFmtRAll
import Derived.Test.Qxb6613648aFmtModel
namespace Go.Proofs.Qxb6613648aFmt
open Go.RowKit
set_option linter.unusedVariables false
set_option linter.unusedSimpArgs false
attribute [local go_sem] setCell_drewN alloc_drewN

set_option maxRecDepth 1000000 in
set_option maxHeartbeats 8000000 in
theorem l7_45 (fb mb rb tb sb P len qb cp cn e0 v F dbx mbk dl wb D n : Nat) (far left a sa fa sz x fl fs en : Int) (hs b hf ok dc fhs fhf : Bool) (B : Nat → Int) (post : Ending → World → Prop) (wX wS wA : World) (u2 u3 u4 u5 u6 u8 u9 u10 u11 u13 u14 u15 u16 u18 u19 u20 u22 u25 u26 u27 u30 u31 u32 u33 u34 u35 u36 u37 u38 u39 u40 u41 u42 u43 u44 u45 u46 u47 u48 u49 u50 u51 u52 u53 u54 u55 u56 u57 u58 u59 u60 u61 u62 u63 u64 u65 u66 u67 u68 u69 u70 u71 u72 u73 u74 u75 u76 u77 u78 u79 u80 u81 u82 u83 u84 u85 u86 u87 u88 u89 u90 u91 u92 u93 u94 u95 u96 u97 u98 u99 u100 u101 u102 u103 u104 u105 u106 u107 u108 u109 u110 u111 u112 u113 u114 u115 u116 u117 u118 u119 u120 u121 u122 u123 u124 u125 u126 u127 u128 u129 u130 u131 u132 u133 u134 u135 u136 u137 u138 u139 u140 u141 u142 u143 u144 u145 u146 u147 u148 u149 u150 u151 u152 u153 u154 u155 u156 u157 u158 u159 u160 u161 u162 u163 u164 u165 u166 u167 u168 u169 u170 u171 u172 u173 u174 u175 u176 u177 u178 u179 u180 u181 u182 u183 u184 u185 u186 u187 u188 u189 u190 u191 u192 u193 u194 u195 u196 u197 u198 u199 u200 u201 u202 u203 u204 u205 u206 u207 u208 u209 u210 u211 u212 u213 u214 u215 u216 u217 u218 u219 u220 u221 u222 u223 u224 u225 u226 u227 u228 u229 u230 u231 u232 u233 u234 u235 u236 u237 u238 u239 u240 u241 u242 u243 u244 u245 u246 u247 u248 u249 u250 u251 u252 u253 u254 u255 u256 u257 u258 u259 u260 u261 u262 u263 u264 u265 u266 u267 u268 u269 u270 u271 u272 u273 u274 u275 u276 u277 u278 u279 u280 u281 u282 u283 u284 u285 u286 u287 u288 u289 u290 : Value)
    (hX : Row wX F len B ∧ wX.heap[dbx]? = some (.cells #[.int .u32 sz, .int .u32 fl, .bool hs, .bool hf] 27 (0, 0)) ∧ wX.heap[mbk]? = some (.cells #[.bool ok, .bool dc, .int .i64 cn, .int .i64 a, .int .i64 e0, .int .i64 en, .int .i64 v, .int .i64 sa, .int .i64 fa, .int .u32 fs, .int .u32 x, .bool fhs, .bool fhf] 57 (0, 0))) (hF : FW fb mb rb tb sb P len qb cp cn e0 v wX.heap.size wb D dl far left a sa fa sz x fl hs b hf B wX wS wA (0 + n) (0 + n) (if n = 0 then 0 else offAt far a (szOf B e0 v sa sz) (0 + n)) (fun j => if j < n then offAt far a (szOf B e0 v sa sz) (0 + j) else -1) (fun j => if j < n then (szOf B e0 v sa sz) (0 + j) else -1) (fun j => if j < n then (bits .and .u32 ((fgOf B e0 v fa x fl) (0 + j)) 65536 == 0) else true)) (hn : n = min dl cn)
    (hdl : dl ≤ 65536) (hcn0 : 0 < cn) (hcn : cn ≤ 65536) (hv : v ≤ 16) (hen : e0 + cn * v ≤ len) (hlen : len ≤ 1048576) (hsa : 0 ≤ sa → sa + 4 ≤ v) (hfa : 0 ≤ fa → fa + 4 ≤ v) (hB : Byte B) (hsz0 : 0 ≤ sz) (hsz1 : sz ≤ 4294967295) (hx0 : 0 ≤ x) (hx1 : x ≤ 4294967295) (hfl0 : 0 ≤ fl) (hfl1 : fl ≤ 4294967295) (ha0 : -2147483648 ≤ a) (ha1 : a ≤ 4611686020574871552) (hf0 : 0 ≤ far) (hf1 : far ≤ 4611686018427387904)
    (hpost : ∀ w', Below wX.heap.size wX w' → post (.returned (.bool true)) w') :
    Code.wp Tryf.prog ((Tryf.f7.body.bind (fromReg 45)).getD .skip) (bodyPost Tryf.prog Tryf.f7 post) ⟨#[.slice (some ⟨F, 0, none⟩) len len, .int .i64 far, u2, u3, u4, u5, u6, .int .i64 dl, u8, u9, u10, u11, .pointer (some ⟨dbx, 0, none⟩), u13, u14, u15, u16, .pointer (some ⟨mbk, 0, none⟩), u18, u19, u20, .int .i64 (offAt far a (szOf B e0 v sa sz) cn), u22, .pointer (some ⟨wb, 0, none⟩), .slice (some ⟨D, 0, none⟩) dl dl, u25, u26, u27, .int .i64 n, .int .i64 (sumTo (szOf B e0 v sa sz) n), u30, u31, u32, u33, u34, u35, u36, u37, u38, u39, u40, u41, u42, u43, u44, u45, u46, u47, u48, u49, u50, u51, u52, u53, u54, u55, u56, u57, u58, u59, u60, u61, u62, u63, u64, u65, u66, u67, u68, u69, u70, u71, u72, u73, u74, u75, u76, u77, u78, u79, u80, u81, u82, u83, u84, u85, u86, u87, u88, u89, u90, u91, u92, u93, u94, u95, u96, u97, u98, u99, u100, u101, u102, u103, u104, u105, u106, u107, u108, u109, u110, u111, u112, u113, u114, u115, u116, u117, u118, u119, u120, u121, u122, u123, u124, u125, u126, u127, u128, u129, u130, u131, u132, u133, u134, u135, u136, u137, u138, u139, u140, u141, u142, u143, u144, u145, u146, u147, u148, u149, u150, u151, u152, u153, u154, u155, u156, u157, u158, u159, u160, u161, u162, u163, u164, u165, u166, u167, u168, u169, u170, u171, u172, u173, u174, u175, u176, u177, u178, u179, u180, u181, u182, u183, u184, u185, u186, u187, u188, u189, u190, u191, u192, u193, u194, u195, u196, u197, u198, u199, u200, u201, u202, u203, u204, u205, u206, u207, u208, u209, u210, u211, u212, u213, u214, u215, u216, u217, u218, u219, u220, u221, u222, u223, u224, u225, u226, u227, u228, u229, u230, u231, u232, u233, u234, u235, u236, u237, u238, u239, u240, u241, u242, u243, u244, u245, u246, u247, u248, u249, u250, u251, u252, u253, u254, u255, u256, u257, u258, u259, u260, u261, u262, u263, u264, u265, u266, u267, u268, u269, u270, u271, u272, u273, u274, u275, u276, u277, u278, u279, u280, u281, u282, u283, u284, u285, u286, u287, u288, u289, u290], []⟩ wA := by
  have HF : Hid (FW fb mb rb tb sb P len qb cp cn e0 v wX.heap.size wb D dl far left a sa fa sz x fl hs b hf B wX wS wA (0 + n) (0 + n) (if n = 0 then 0 else offAt far a (szOf B e0 v sa sz) (0 + n)) (fun j => if j < n then offAt far a (szOf B e0 v sa sz) (0 + j) else -1) (fun j => if j < n then (szOf B e0 v sa sz) (0 + j) else -1) (fun j => if j < n then (bits .and .u32 ((fgOf B e0 v fa x fl) (0 + j)) 65536 == 0) else true)) := hF
  have HP : Hid (∀ w', Below wX.heap.size wX w' → post (.returned (.bool true)) w') := hpost
  have mm : wA.heap[mbk]? = some (.cells #[.bool ok, .bool dc, .int .i64 cn, .int .i64 a, .int .i64 e0, .int .i64 en, .int .i64 v, .int .i64 sa, .int .i64 fa, .int .u32 fs, .int .u32 x, .bool fhs, .bool fhf] 57 (0, 0)) := (hF.below.block mbk (lt_of_block hX.2.2)).trans hX.2.2
  have m2 : wA.cell? ⟨mbk, 2, none⟩ = some (.int .i64 cn) := by simp [World.cell?, mm]
  have m3 : wA.cell? ⟨mbk, 3, none⟩ = some (.int .i64 a) := by simp [World.cell?, mm]
  have hsb := fun j => szOf_bd hB e0 v sa sz hsz0 hsz1 j
  have HSb : Hid (∀ j, 0 ≤ (szOf B e0 v sa sz) j ∧ (szOf B e0 v sa sz) j ≤ 4294967295) := hsb
  have hsm := sumTo_bd hsb n
  have hnd : n ≤ dl := by omega
  have hnc : n ≤ cn := by omega
  have c12 := hF.c12
  have c13 : wA.cell? ⟨wb, 13, none⟩ = some (.int .i64 n) := by have := hF.c13; rwa [Nat.zero_add] at this
  have c1 : wA.cell? ⟨wb, 1, none⟩ = some (.int .i64 n) := by have := hF.c1; rwa [Nat.zero_add] at this
  have HBl : Hid (∀ m, Below wX.heap.size wX (wA.drewN m)) := fun m => below_drewN hF.below m
  by_cases hn0 : n = 0
  · subst hn0
    have c14 : wA.cell? ⟨wb, 14, none⟩ = some (.int .i64 0) := hF.c14
    have hcz : ((0 : Int) == (cn : Int)) = false := by simp; omega
    clear hX hF hsa hfa hen hB hpost mm hsb hsm hn
    conv => arg 2; whnf
    go_wp2_with fail
    refine (state_any wb 0 0 0 0 wA c12 c13 c1 c14).mono ?_
    rintro e w2 ⟨rfl, nd, rfl⟩
    go_upto_region 51 with fail
    go_quiet (fail)
    go_wp2
    exact HP.out _ (by rw [World.drewN_drewN]; exact HBl.out _)
  · obtain ⟨n', hn1⟩ : ∃ n', n = n' + 1 := ⟨n - 1, by omega⟩
    obtain ⟨t, ht⟩ : ∃ t, t = sumTo (szOf B e0 v sa sz) n := ⟨_, rfl⟩
    obtain ⟨o, ho⟩ : ∃ o, o = offAt far a (szOf B e0 v sa sz) n := ⟨_, rfl⟩
    rw [← ht] at hsm ⊢
    have HO : Hid (min (a + t) far = o) := by show _ = _; rw [ht, ho, hn1]; exact (off_sum hsb n').symm
    have c14 : wA.cell? ⟨wb, 14, none⟩ = some (.int .i64 o) := by
      have := hF.c14
      rw [if_neg hn0, Nat.zero_add] at this
      rw [this, ho]
    obtain ⟨g0, g1, g2⟩ := hF.dst.cells (show n' < dl by omega)
    rw [if_pos (by omega), Nat.zero_add] at g0 g1
    obtain ⟨o1, ho1⟩ : ∃ o1, o1 = offAt far a (szOf B e0 v sa sz) n' := ⟨_, rfl⟩
    obtain ⟨s1, hs1⟩ : ∃ s1, s1 = (szOf B e0 v sa sz) n' := ⟨_, rfl⟩
    have hob := offAt_bd hsb ha0 ha1 hf0 hf1 (j := n')
    have hs1b := hsb n'
    rw [← ho1] at g0 hob
    rw [← hs1] at g1 hs1b
    have HL : Hid (min (o1 + s1) far = o) := by show _ = _; rw [ho1, hs1, ho, hn1]; rfl
    have hnp : (0 : Int) < (n : Int) := by omega
    have htb : t ≤ 281474976710656 := by omega
    have hnm : (n : Int) - 1 = (n' : Int) := by omega
    have hnd' : (n' : Int) < (dl : Int) := by omega
    have hnd2 : n' < dl := by omega
    have hn'b : n' ≤ 65536 := by omega
    have hwn : IntKind.i64.wrap (n' : Int) = (n' : Int) := by rw [IntKind.wrap_i64]; omega
    have HE : Hid (n = cn → offAt far a (szOf B e0 v sa sz) cn = o) := fun h => by rw [ho, h]
    generalize offAt far a (szOf B e0 v sa sz) cn = oe at HE ⊢
    by_cases hnc1 : n = cn
    · obtain rfl := HE.out hnc1
      clear hX hF hsa hfa hen hB hpost mm hsb hn hn1 ht ho ho1 hs1 g2 HE hn0 HF hnc
      subst hnc1
      conv => arg 2; whnf
      go_wp2_with fail
      refine (minI_any (a + t) far wA).mono ?_
      rintro e w2 ⟨rfl, hw2⟩
      obtain rfl := hw2.symm
      rw [HO.out]
      go_wp2_with fail
      refine (state_any wb 0 n n oe wA c12 c13 c1 c14).mono ?_
      rintro e w2 ⟨rfl, nd, hw2⟩
      have k2 : w2.cell? ⟨mbk, 2, none⟩ = some (.int .i64 n) := by rw [hw2]; exact m2
      have k0 : w2.cell? ⟨D, n' * 3, none⟩ = some (.int .i64 o1) := by rw [hw2]; exact g0
      have k1 : w2.cell? ⟨D, n' * 3 + 1, none⟩ = some (.int .i64 s1) := by rw [hw2]; exact g1
      have HBl2 : Hid (∀ m, Below wX.heap.size wX (w2.drewN m)) := by rw [hw2]; exact fun m => by rw [World.drewN_drewN]; exact HBl.out _
      have hws : IntKind.i64.wrap (o1 + s1) = o1 + s1 := by rw [IntKind.wrap_i64]; omega
      clear hw2 m2 m3 g0 g1 c12 c13 c1 c14 HBl
      have HMin : Hid (∀ w, Calls Tryf.prog 40 #[.int .i64 (o1 + s1), .int .i64 far] w fun e w' => e = .returned (.int .i64 oe) ∧ w' = w) := by
        have := minI_any (o1 + s1) far
        rw [HL.out] at this
        exact this
      go_upto_region 51 with fail
      go_quiet ((go_at_call 40; exact Calls.quiet_of_same (HMin.out _)))
      go_wp2
      exact HP.out _ (HBl2.out _)
    · have hcz : ((n : Int) == (cn : Int)) = false := by simp; omega
      clear hX hF hsa hfa hen hB hpost mm hsb hn hn1 ht ho ho1 hs1 g2 hnc1 HE hn0 HL
      conv => arg 2; whnf
      go_wp2_with fail
      refine (minI_any (a + t) far wA).mono ?_
      rintro e w2 ⟨rfl, hw2⟩
      obtain rfl := hw2.symm
      rw [HO.out]
      go_wp2_with fail
      refine (state_any wb 0 n n o wA c12 c13 c1 c14).mono ?_
      rintro e w2 ⟨rfl, nd, rfl⟩
      go_upto_region 51 with fail
      go_quiet (fail)
      go_wp2
      exact HP.out _ (by rw [World.drewN_drewN]; exact HBl.out _)

end Go.Proofs.Qxb6613648aFmt

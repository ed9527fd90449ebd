/-
  FnFillTrunLaysOutTheRun: each sample is looked at.
-/
import Derived.Test.Qxb6613648aFmtLaw7E
import Derived.Test.Qxb6613648aFmtFAll
import Derived.Test.Qxb6613648aFmtRAll
import Derived.Test.Qxb6613648aFmtModel
namespace Go.Proofs.Qxb6613648aFmt
open Go.RowKit
set_option linter.unusedVariables false
set_option linter.unusedSimpArgs false
attribute [local go_sem] setCell_drewN alloc_drewN

theorem le16 {x : Int} {v : Nat} (h : 0 ≤ x → x + 4 ≤ v) (hv : v ≤ 16) : x ≤ 16 := by
  by_cases h0 : 0 ≤ x
  · have := h h0; omega
  · omega

set_option maxRecDepth 1000000 in
set_option maxHeartbeats 8000000 in
theorem l7_31 (fb mb rb tb sb P len qb cp cn e0 v F dbx mbk dl wb D n : Nat) (far left a sa fa sz x fl fs en : Int) (hs b hf ok dc fhs fhf : Bool) (B : Nat → Int) (post : Ending → World → Prop) (wX wS wA : World) (u2 u3 u4 u5 u6 u8 u9 u10 u11 u13 u14 u15 u16 u18 u19 u20 u22 u25 u26 u27 u30 u31 u32 u33 u34 u35 u36 u37 u38 u39 u40 u41 u42 u43 u44 u45 u46 u47 u48 u49 u50 u51 u52 u53 u54 u55 u56 u57 u58 u59 u60 u61 u62 u63 u64 u65 u66 u67 u68 u69 u70 u71 u72 u73 u74 u75 u76 u77 u78 u79 u80 u81 u82 u83 u84 u85 u86 u87 u88 u89 u90 u91 u92 u93 u94 u95 u96 u97 u98 u99 u100 u101 u102 u103 u104 u105 u106 u107 u108 u109 u110 u111 u112 u113 u114 u115 u116 u117 u118 u119 u120 u121 u122 u123 u124 u125 u126 u127 u128 u129 u130 u131 u132 u133 u134 u135 u136 u137 u138 u139 u140 u141 u142 u143 u144 u145 u146 u147 u148 u149 u150 u151 u152 u153 u154 u155 u156 u157 u158 u159 u160 u161 u162 u163 u164 u165 u166 u167 u168 u169 u170 u171 u172 u173 u174 u175 u176 u177 u178 u179 u180 u181 u182 u183 u184 u185 u186 u187 u188 u189 u190 u191 u192 u193 u194 u195 u196 u197 u198 u199 u200 u201 u202 u203 u204 u205 u206 u207 u208 u209 u210 u211 u212 u213 u214 u215 u216 u217 u218 u219 u220 u221 u222 u223 u224 u225 u226 u227 u228 u229 u230 u231 u232 u233 u234 u235 u236 u237 u238 u239 u240 u241 u242 u243 u244 u245 u246 u247 u248 u249 u250 u251 u252 u253 u254 u255 u256 u257 u258 u259 u260 u261 u262 u263 u264 u265 u266 u267 u268 u269 u270 u271 u272 u273 u274 u275 u276 u277 u278 u279 u280 u281 u282 u283 u284 u285 u286 u287 u288 u289 u290 : Value)
    (hX : Row wX F len B ∧ wX.heap[dbx]? = some (.cells #[.int .u32 sz, .int .u32 fl, .bool hs, .bool hf] 27 (0, 0)) ∧ wX.heap[mbk]? = some (.cells #[.bool ok, .bool dc, .int .i64 cn, .int .i64 a, .int .i64 e0, .int .i64 en, .int .i64 v, .int .i64 sa, .int .i64 fa, .int .u32 fs, .int .u32 x, .bool fhs, .bool fhf] 57 (0, 0))) (hF : FW fb mb rb tb sb P len qb cp cn e0 v wX.heap.size wb D dl far left a sa fa sz x fl hs b hf B wX wS wA (0 + n) (0 + n) (if n = 0 then 0 else offAt far a (szOf B e0 v sa sz) (0 + n)) (fun j => if j < n then offAt far a (szOf B e0 v sa sz) (0 + j) else -1) (fun j => if j < n then (szOf B e0 v sa sz) (0 + j) else -1) (fun j => if j < n then (bits .and .u32 ((fgOf B e0 v fa x fl) (0 + j)) 65536 == 0) else true)) (hNw : wX.heap.size ≤ wb) (hND : wX.heap.size ≤ D) (hn : n = min dl cn)
    (hdl : dl ≤ 65536) (hcn0 : 0 < cn) (hcn : cn ≤ 65536) (hv : v ≤ 16) (hen : e0 + cn * v ≤ len) (hlen : len ≤ 1048576) (hsa : 0 ≤ sa → sa + 4 ≤ v) (hfa : 0 ≤ fa → fa + 4 ≤ v) (hB : Byte B) (hsz0 : 0 ≤ sz) (hsz1 : sz ≤ 4294967295) (hx0 : 0 ≤ x) (hx1 : x ≤ 4294967295) (hfl0 : 0 ≤ fl) (hfl1 : fl ≤ 4294967295) (ha0 : -2147483648 ≤ a) (ha1 : a ≤ 4611686020574871552) (hf0 : 0 ≤ far) (hf1 : far ≤ 4611686018427387904)
    (hpost : ∀ w', Below wX.heap.size wX w' → post (.returned (.bool true)) w') :
    Code.wp Tryf.prog ((Tryf.f7.body.bind (fromReg 31)).getD .skip) (bodyPost Tryf.prog Tryf.f7 post) ⟨#[.slice (some ⟨F, 0, none⟩) len len, .int .i64 far, u2, u3, u4, u5, u6, .int .i64 dl, u8, u9, u10, u11, .pointer (some ⟨dbx, 0, none⟩), u13, u14, u15, u16, .pointer (some ⟨mbk, 0, none⟩), u18, u19, u20, .int .i64 (offAt far a (szOf B e0 v sa sz) cn), u22, .pointer (some ⟨wb, 0, none⟩), .slice (some ⟨D, 0, none⟩) dl dl, u25, u26, u27, .int .i64 n, .int .i64 0, u30, u31, u32, u33, u34, u35, u36, u37, u38, u39, u40, u41, u42, u43, u44, u45, u46, u47, u48, u49, u50, u51, u52, u53, u54, u55, u56, u57, u58, u59, u60, u61, u62, u63, u64, u65, u66, u67, u68, u69, u70, u71, u72, u73, u74, u75, u76, u77, u78, u79, u80, u81, u82, u83, u84, u85, u86, u87, u88, u89, u90, u91, u92, u93, u94, u95, u96, u97, u98, u99, u100, u101, u102, u103, u104, u105, u106, u107, u108, u109, u110, u111, u112, u113, u114, u115, u116, u117, u118, u119, u120, u121, u122, u123, u124, u125, u126, u127, u128, u129, u130, u131, u132, u133, u134, u135, u136, u137, u138, u139, u140, u141, u142, u143, u144, u145, u146, u147, u148, u149, u150, u151, u152, u153, u154, u155, u156, u157, u158, u159, u160, u161, u162, u163, u164, u165, u166, u167, u168, u169, u170, u171, u172, u173, u174, u175, u176, u177, u178, u179, u180, u181, u182, u183, u184, u185, u186, u187, u188, u189, u190, u191, u192, u193, u194, u195, u196, u197, u198, u199, u200, u201, u202, u203, u204, u205, u206, u207, u208, u209, u210, u211, u212, u213, u214, u215, u216, u217, u218, u219, u220, u221, u222, u223, u224, u225, u226, u227, u228, u229, u230, u231, u232, u233, u234, u235, u236, u237, u238, u239, u240, u241, u242, u243, u244, u245, u246, u247, u248, u249, u250, u251, u252, u253, u254, u255, u256, u257, u258, u259, u260, u261, u262, u263, u264, u265, u266, u267, u268, u269, u270, u271, u272, u273, u274, u275, u276, u277, u278, u279, u280, u281, u282, u283, u284, u285, u286, u287, u288, u289, u290], []⟩ wA := by
  have HX : Hid (Row wX F len B ∧ wX.heap[dbx]? = some (.cells #[.int .u32 sz, .int .u32 fl, .bool hs, .bool hf] 27 (0, 0)) ∧ wX.heap[mbk]? = some (.cells #[.bool ok, .bool dc, .int .i64 cn, .int .i64 a, .int .i64 e0, .int .i64 en, .int .i64 v, .int .i64 sa, .int .i64 fa, .int .u32 fs, .int .u32 x, .bool fhs, .bool fhf] 57 (0, 0))) := hX
  have HF : Hid (FW fb mb rb tb sb P len qb cp cn e0 v wX.heap.size wb D dl far left a sa fa sz x fl hs b hf B wX wS wA (0 + n) (0 + n) (if n = 0 then 0 else offAt far a (szOf B e0 v sa sz) (0 + n)) (fun j => if j < n then offAt far a (szOf B e0 v sa sz) (0 + j) else -1) (fun j => if j < n then (szOf B e0 v sa sz) (0 + j) else -1) (fun j => if j < n then (bits .and .u32 ((fgOf B e0 v fa x fl) (0 + j)) 65536 == 0) else true)) := hF
  have HNu : Hid ((0 ≤ sa → sa + 4 ≤ v) ∧ (0 ≤ fa → fa + 4 ≤ v) ∧ e0 + cn * v ≤ len ∧ Byte B) := ⟨hsa, hfa, hen, hB⟩
  have HP : Hid (∀ w', Below wX.heap.size wX w' → post (.returned (.bool true)) w') := hpost
  have HN : Hid (n = min dl cn) := hn
  have HSb : Hid (∀ j, 0 ≤ (szOf B e0 v sa sz) j ∧ (szOf B e0 v sa sz) j ≤ 4294967295) := fun j => szOf_bd hB e0 v sa sz hsz0 hsz1 j
  have HA : Hid (Row wA F len B ∧ wA.heap[dbx]? = some (.cells #[.int .u32 sz, .int .u32 fl, .bool hs, .bool hf] 27 (0, 0)) ∧ wA.heap[mbk]? = some (.cells #[.bool ok, .bool dc, .int .i64 cn, .int .i64 a, .int .i64 e0, .int .i64 en, .int .i64 v, .int .i64 sa, .int .i64 fa, .int .u32 fs, .int .u32 x, .bool fhs, .bool fhf] 57 (0, 0)) ∧ SRow wA D dl (fun j => if j < n then offAt far a (szOf B e0 v sa sz) (0 + j) else -1) (fun j => if j < n then (szOf B e0 v sa sz) (0 + j) else -1) (fun j => if j < n then (bits .and .u32 ((fgOf B e0 v fa x fl) (0 + j)) 65536 == 0) else true)) := ⟨hX.1.below hF.below hX.1.lt, (hF.below.block _ (lt_of_block hX.2.1)).trans hX.2.1, (hF.below.block _ (lt_of_block hX.2.2)).trans hX.2.2, hF.dst⟩
  have hnd : n ≤ dl := by omega
  have hnc : n ≤ cn := by omega
  have HIn : Hid (∀ k, k < n → ((0 ≤ sa → (e0 : Int) + k * v + sa + 4 ≤ len) ∧ (0 ≤ fa → (e0 : Int) + k * v + fa + 4 ≤ len))) := by
    intro k hk
    have h1 : (k + 1) * v ≤ cn * v := Nat.mul_le_mul_right v (by omega)
    rw [Nat.add_mul] at h1
    have h2 : (k : Int) * (v : Int) = ((k * v : Nat) : Int) := by simp
    rw [h2]
    exact ⟨fun h => by have := hsa h; omega, fun h => by have := hfa h; omega⟩
  clear hX hF hsa hfa hen hB hpost hn
  conv => arg 2; whnf
  conv => arg 4; zeta
  refine wp_seq_k fun KB hKB => ?_
  go_cut [29, 30, 31, 32, 33] (fun s _ _ _ _ wx => s = .int .i64 (sumTo (szOf B e0 v sa sz) n) ∧ Hid (Below wA.heap.size wA wx))
  case first =>
    go_wp2_with fail
    go_loopw [29, 30, 31, 32, 33] (fun s i _ _ _ wr => ∃ k : Nat, k ≤ dl ∧ i = .int .i64 k ∧ s = .int .i64 (sumTo (szOf B e0 v sa sz) (min k n)) ∧ Hid (Below wA.heap.size wA wr)) (fun _ i _ _ _ _ => dl - (intOf i).toNat)
    case atStart => exact ⟨0, Nat.zero_le _, rfl, by rw [Nat.zero_min]; rfl, Below.refl _ _⟩
    case round =>
      obtain ⟨k, hk, rfl, rfl, HB⟩ := hrel
      by_cases hlt : k < dl
      · have HSR : Hid (SRow wr D dl (fun j => if j < n then offAt far a (szOf B e0 v sa sz) (0 + j) else -1) (fun j => if j < n then (szOf B e0 v sa sz) (0 + j) else -1) (fun j => if j < n then (bits .and .u32 ((fgOf B e0 v fa x fl) (0 + j)) 65536 == 0) else true)) := HA.out.2.2.2.of_block (fun c f h => (HB.out.block D (lt_of_block h)).trans h)
        by_cases hkn : k < n
        · obtain ⟨t, ht⟩ : ∃ t, t = sumTo (szOf B e0 v sa sz) k := ⟨_, rfl⟩
          have htb := sumTo_bd HSb.out k
          rw [show min k n = k by omega]
          rw [← ht] at htb ⊢
          have htm : t ≤ 281474976710656 := by omega
          obtain ⟨o, ho⟩ : ∃ o, o = offAt far a (szOf B e0 v sa sz) k := ⟨_, rfl⟩
          obtain ⟨s, hs'⟩ : ∃ s, s = (szOf B e0 v sa sz) k := ⟨_, rfl⟩
          obtain ⟨g, hg⟩ : ∃ g, g = (fgOf B e0 v fa x fl) k := ⟨_, rfl⟩
          have hsb := HSb.out k
          rw [← hs'] at hsb
          have HD : Hid (∀ w', Below wr.heap.size wr w' → w'.cell? ⟨D, k * 3, none⟩ = some (.int .i64 o) ∧ w'.cell? ⟨D, k * 3 + 1, none⟩ = some (.int .i64 s) ∧ w'.cell? ⟨D, k * 3 + 2, none⟩ = some (.bool (bits .and .u32 g 65536 == 0))) := by
            intro w' hb
            obtain ⟨c0, c1, c2⟩ := HSR.out.cells hlt
            rw [if_pos hkn, Nat.zero_add] at c0 c1 c2
            rw [ho, hs', hg]
            exact ⟨(hb.cell (lt_of_cell c0)).trans c0, (hb.cell (lt_of_cell c1)).trans c1, (hb.cell (lt_of_cell c2)).trans c2⟩
          have HRF : Hid (∀ w', Below wr.heap.size wr w' → Row w' F len B) := fun w' hb => HA.out.1.of_block ((hb.block F (Nat.lt_of_lt_of_le HA.out.1.lt HB.out.size)).trans (HB.out.block F HA.out.1.lt))
          have mm : wr.heap[mbk]? = some (.cells #[.bool ok, .bool dc, .int .i64 cn, .int .i64 a, .int .i64 e0, .int .i64 en, .int .i64 v, .int .i64 sa, .int .i64 fa, .int .u32 fs, .int .u32 x, .bool fhs, .bool fhf] 57 (0, 0)) := (HB.out.block _ (lt_of_block HA.out.2.2.1)).trans HA.out.2.2.1
          have dd : wr.heap[dbx]? = some (.cells #[.int .u32 sz, .int .u32 fl, .bool hs, .bool hf] 27 (0, 0)) := (HB.out.block _ (lt_of_block HA.out.2.1)).trans HA.out.2.1
          have HMD : Hid (∀ w', Below wr.heap.size wr w' → w'.heap[mbk]? = some (.cells #[.bool ok, .bool dc, .int .i64 cn, .int .i64 a, .int .i64 e0, .int .i64 en, .int .i64 v, .int .i64 sa, .int .i64 fa, .int .u32 fs, .int .u32 x, .bool fhs, .bool fhf] 57 (0, 0)) ∧ w'.heap[dbx]? = some (.cells #[.int .u32 sz, .int .u32 fl, .bool hs, .bool hf] 27 (0, 0))) := fun w' hb => ⟨(hb.block _ (lt_of_block mm)).trans mm, (hb.block _ (lt_of_block dd)).trans dd⟩
          have mC : ∀ i, wr.cell? ⟨mbk, i, none⟩ = (#[.bool ok, .bool dc, .int .i64 cn, .int .i64 a, .int .i64 e0, .int .i64 en, .int .i64 v, .int .i64 sa, .int .i64 fa, .int .u32 fs, .int .u32 x, .bool fhs, .bool fhf] : Array Value)[i]? := fun i => by simp [World.cell?, mm]
          have dC : ∀ i, wr.cell? ⟨dbx, i, none⟩ = (#[.int .u32 sz, .int .u32 fl, .bool hs, .bool hf] : Array Value)[i]? := fun i => by simp [World.cell?, dd]
          have HE : Hid (t + s = sumTo (szOf B e0 v sa sz) (k + 1) ∧ o = offAt far a (szOf B e0 v sa sz) k ∧ s = (szOf B e0 v sa sz) k ∧ g = (fgOf B e0 v fa x fl) k) := ⟨by rw [ht, hs']; rfl, ho, hs', hg⟩
          have HK0 : Hid (k = 0 → o = a) := fun h => by rw [ho, h]; rfl
          have HK1 : Hid (0 < k → min (a + t) far = o) := fun h => by
            obtain ⟨k', rfl⟩ : ∃ k', k = k' + 1 := ⟨k - 1, by omega⟩
            rw [ht, ho]
            exact (off_sum HSb.out k').symm
          have hkge : ¬ (n : Int) ≤ (k : Int) := by omega
          clear mm dd ht ho hs' hg HSR
          by_cases hk0 : k = 0
          · have hkd : ¬ (0 : Int) < (k : Int) := by omega
            have e0' := HK0.out hk0
            clear HK0 HK1
            subst e0'
            clear hk0
            go_wp2_with fail
            obtain ⟨n1, n2, n3, n4⟩ := HNu.out
            refine (runSize_any F len len B ok dc cn _ e0 en v sa fa fs x fhs fhf sz fl hs hf k wr (HRF.out _ (Below.refl _ _)) n4 hlen (by omega) (by omega) (by omega) (by omega) (le16 n1 hv) (HIn.out k hkn).1).mono ?_
            rintro e w2 ⟨rfl, h2⟩
            rw [show (szOf B e0 v sa sz) k = s from HE.out.2.2.1.symm]
            have H2 : Hid (Below wr.heap.size wr w2) := h2
            clear h2 mC dC
            have mC : ∀ i, w2.cell? ⟨mbk, i, none⟩ = (#[.bool ok, .bool dc, .int .i64 cn, .int .i64 o, .int .i64 e0, .int .i64 en, .int .i64 v, .int .i64 sa, .int .i64 fa, .int .u32 fs, .int .u32 x, .bool fhs, .bool fhf] : Array Value)[i]? := fun i => by simp [World.cell?, (HMD.out _ H2.out).1]
            have dC : ∀ i, w2.cell? ⟨dbx, i, none⟩ = (#[.int .u32 sz, .int .u32 fl, .bool hs, .bool hf] : Array Value)[i]? := fun i => by simp [World.cell?, (HMD.out _ H2.out).2]
            go_wp2_with fail
            refine (runFlags_any F len len B ok dc cn _ e0 en v sa fa fs x fhs fhf sz fl hs hf k w2 (HRF.out _ H2.out) n4 hlen (by omega) (by omega) (by omega) (by omega) (le16 n2 hv) (HIn.out k hkn).2).mono ?_
            rintro e w3 ⟨rfl, h3⟩
            rw [show (fgOf B e0 v fa x fl) k = g from HE.out.2.2.2.symm]
            have H3 : Hid (Below wr.heap.size wr w3) := H2.out.trans (h3.mono H2.out.size)
            clear h3 mC dC n1 n2 n3 n4
            obtain ⟨q0, q1, q2⟩ := HD.out _ H3.out
            have HB3 : Hid (Below wA.heap.size wA w3) := HB.out.trans (H3.out.mono HB.out.size)
            have HT : Hid (t + s = sumTo (szOf B e0 v sa sz) (min (k + 1) n)) := by show _ = _; rw [show min (k + 1) n = k + 1 by omega]; exact HE.out.1
            go_wp2
            go_roundw
            case rel => exact ⟨k + 1, by omega, by go_num, by rw [← HT.out], HB3⟩
            case measure => simp [intOf]; omega
          · have hkd : (0 : Int) < (k : Int) := by omega
            go_wp2_with fail
            refine (minI_any (a + t) far wr).mono ?_
            rintro e w2 ⟨rfl, hw2⟩
            obtain rfl := hw2.symm
            rw [HK1.out (by omega)]
            go_wp2_with fail
            obtain ⟨n1, n2, n3, n4⟩ := HNu.out
            refine (runSize_any F len len B ok dc cn _ e0 en v sa fa fs x fhs fhf sz fl hs hf k wr (HRF.out _ (Below.refl _ _)) n4 hlen (by omega) (by omega) (by omega) (by omega) (le16 n1 hv) (HIn.out k hkn).1).mono ?_
            rintro e w2 ⟨rfl, h2⟩
            rw [show (szOf B e0 v sa sz) k = s from HE.out.2.2.1.symm]
            have H2 : Hid (Below wr.heap.size wr w2) := h2
            clear h2 mC dC
            have mC : ∀ i, w2.cell? ⟨mbk, i, none⟩ = (#[.bool ok, .bool dc, .int .i64 cn, .int .i64 a, .int .i64 e0, .int .i64 en, .int .i64 v, .int .i64 sa, .int .i64 fa, .int .u32 fs, .int .u32 x, .bool fhs, .bool fhf] : Array Value)[i]? := fun i => by simp [World.cell?, (HMD.out _ H2.out).1]
            have dC : ∀ i, w2.cell? ⟨dbx, i, none⟩ = (#[.int .u32 sz, .int .u32 fl, .bool hs, .bool hf] : Array Value)[i]? := fun i => by simp [World.cell?, (HMD.out _ H2.out).2]
            go_wp2_with fail
            refine (runFlags_any F len len B ok dc cn _ e0 en v sa fa fs x fhs fhf sz fl hs hf k w2 (HRF.out _ H2.out) n4 hlen (by omega) (by omega) (by omega) (by omega) (le16 n2 hv) (HIn.out k hkn).2).mono ?_
            rintro e w3 ⟨rfl, h3⟩
            rw [show (fgOf B e0 v fa x fl) k = g from HE.out.2.2.2.symm]
            have H3 : Hid (Below wr.heap.size wr w3) := H2.out.trans (h3.mono H2.out.size)
            clear h3 mC dC n1 n2 n3 n4
            obtain ⟨q0, q1, q2⟩ := HD.out _ H3.out
            have HB3 : Hid (Below wA.heap.size wA w3) := HB.out.trans (H3.out.mono HB.out.size)
            have HT : Hid (t + s = sumTo (szOf B e0 v sa sz) (min (k + 1) n)) := by show _ = _; rw [show min (k + 1) n = k + 1 by omega]; exact HE.out.1
            go_wp2
            go_roundw
            case rel => exact ⟨k + 1, by omega, by go_num, by rw [← HT.out], HB3⟩
            case measure => simp [intOf]; omega
        · have hkge : (n : Int) ≤ (k : Int) := by omega
          obtain ⟨c0, c1, c2⟩ := HSR.out.cells hlt
          rw [if_neg hkn] at c0 c1 c2
          have HM : Hid (min k n = n ∧ min (k + 1) n = n) := ⟨by omega, by omega⟩
          go_wp2
          go_roundw
          case rel =>
            refine ⟨k + 1, by omega, by go_num, ?_, HB⟩
            rw [HM.out.1, HM.out.2]
          case measure => simp [intOf]; omega
      · have HEk : Hid (min k n = n) := by show _ = _; omega
        go_wp2
        go_meet
        rw [HEk.out]
        exact ⟨rfl, HB⟩
  case rest =>
    obtain ⟨rfl, hc⟩ := hcut
    have HC : Hid (Below wA.heap.size wA wc) := hc
    refine hKB _ _ ?_
    obtain ⟨n1, n2, n3, n4⟩ := HNu.out
    exact l7_45 fb mb rb tb sb P len qb cp cn e0 v F dbx mbk dl wb D n far left a sa fa sz x fl fs en hs b hf ok dc fhs fhf B post wX wS _ _ _ _ _ _ _ _ _ _ _ _ _ _ _ _ _ _ _ _ _ _ _ _ _ _ _ _ _ _ _ _ _ _ _ _ _ _ _ _ _ _ _ _ _ _ _ _ _ _ _ _ _ _ _ _ _ _ _ _ _ _ _ _ _ _ _ _ _ _ _ _ _ _ _ _ _ _ _ _ _ _ _ _ _ _ _ _ _ _ _ _ _ _ _ _ _ _ _ _ _ _ _ _ _ _ _ _ _ _ _ _ _ _ _ _ _ _ _ _ _ _ _ _ _ _ _ _ _ _ _ _ _ _ _ _ _ _ _ _ _ _ _ _ _ _ _ _ _ _ _ _ _ _ _ _ _ _ _ _ _ _ _ _ _ _ _ _ _ _ _ _ _ _ _ _ _ _ _ _ _ _ _ _ _ _ _ _ _ _ _ _ _ _ _ _ _ _ _ _ _ _ _ _ _ _ _ _ _ _ _ _ _ _ _ _ _ _ _ _ _ _ _ _ _ _ _ _ _ _ _ _ _ _ _ _ _ _ _ _ _ _ _ _ _ _ _ _ _ _ _ _ _ _ _ _ _ _ _ _ _ _ _ _ _ _ _ _ _ _ _ _ _ _ _ _ _ _ _ _ _ _ HX.out (HF.out.own (HC.out.mono HF.out.below.size) (fun j c t f h _ _ => (HC.out.block j (lt_of_block h)).trans h)) HN.out hdl hcn0 hcn hv n3 hlen n1 n2 n4 hsz0 hsz1 hx0 hx1 hfl0 hfl1 ha0 ha1 hf0 hf1 HP.out

end Go.Proofs.Qxb6613648aFmt

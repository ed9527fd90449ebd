/-
  modelTrun, its head: the words are read one after the other.
-/
import Derived.Test.Qxb6613648aFmtMMid
namespace Go.Proofs.Qxb6613648aFmt
open Go.RowKit
set_option linter.unusedVariables false
attribute [local go_sem] setCell_drewN alloc_drewN

set_option maxRecDepth 1000000 in
set_option maxHeartbeats 4000000 in
theorem model_22 (F len cap : Nat) (B : Nat → Int) (far left t0 t1 t2 t3 st sz fl : Int) (bd en : Nat) (hs hf : Bool) (base next : Int) (w wA : World) (f cnt a wd sa fa x : Int) (b : Bool) (u3 u4 u5 u6 u7 u8 u9 u12 u13 u16 u21 u22 u23 u24 u25 u26 u27 u28 u29 u30 u31 u32 u33 u34 u35 u36 u37 u38 u39 u40 u41 u42 u43 u44 u45 u46 u47 u48 u49 u50 u51 u52 u53 u54 u55 u56 u57 u58 u59 u60 u61 u62 u63 u64 u65 u66 u67 u68 u69 u70 u71 u72 u73 u74 u75 u76 u77 u78 u79 u80 u81 u82 u83 u84 u85 u86 u87 u88 u89 u90 u91 u92 u93 u94 u95 u96 u97 u98 u99 u100 u101 u102 u103 u104 u105 u106 u107 u108 u109 u110 u111 u112 u113 u114 u115 u116 u117 u118 u119 u120 u121 u122 u123 u124 u125 u126 u127 u128 u129 u130 u131 u132 u133 u134 u135 u136 u137 u138 u139 u140 u141 u142 u143 u144 u145 u146 u147 u148 u149 u150 u151 u152 u153 u154 u155 u156 u157 u158 u159 u160 u161 u162 u163 u164 u165 u166 u167 u168 u169 u170 u171 u172 u173 u174 u175 u176 u177 u178 u179 u180 u181 u182 u183 u184 u185 u186 u187 u188 u189 u190 u191 u192 u193 u194 u195 u196 u197 u198 u199 u200 u201 u202 u203 u204 u205 u206 u207 u208 u209 u210 u211 u212 u213 u214 u215 u216 u217 u218 u219 u220 : Value)
    (hR : Row w F len B) (hB : Byte B) (h2 : en ≤ len) (h3 : len ≤ 1048576) (hl1 : left ≤ 65536) (hsz0 : 0 ≤ sz) (hsz1 : sz ≤ 4294967295) (hc0 : 0 ≤ cnt) (bb1 : 0 ≤ bitI f 1 ∧ bitI f 1 ≤ 1) (bb4 : 0 ≤ bitI f 4 ∧ bitI f 4 ≤ 1) (hc1 : cnt ≤ 4294967295) (hl0 : 0 ≤ left) (h1 : bd + 4 ≤ en) (hq : 8 + 4 * bitI f 1 + 4 * bitI f 4 ≤ (en : Int) - bd) (hw0 : 0 ≤ wd) (hw1 : wd ≤ 16) (hs0 : -1 ≤ sa) (hs1 : sa ≤ 4) (hsw : 0 ≤ sa → sa + 4 ≤ wd) (ha0 : -2147483648 ≤ a) (ha1 : a ≤ 4611686020574871552) (hfa : fa = faOf f) (b256 : 0 ≤ bitI f 256 ∧ bitI f 256 ≤ 1) (b512 : 0 ≤ bitI f 512 ∧ bitI f 512 ≤ 1)
    (hM : cnt * wd ≤ en - ((bd : Int) + 4 + (4 + 4 * bitI f 1 + 4 * bitI f 4)) → cnt ≤ left → (1 ≤ cnt → (hs = true ∨ 0 ≤ sa) ∧ (b = true ∨ 0 ≤ fa)) → (2 ≤ cnt → (hs = true ∨ 0 ≤ sa) ∧ (hf = true ∨ 0 ≤ fa)) → MFacts B bd en sz fl hs hf base next left cnt a ((bd : Int) + 4 + (4 + 4 * bitI f 1 + 4 * bitI f 4)) wd sa fa sz x hs b)
    (hA : MAt w wA #[.int .u8 t0, .int .u8 t1, .int .u8 t2, .int .u8 t3, .int .i64 st, .int .i64 bd, .int .i64 en] #[.int .u32 sz, .int .u32 fl, .bool hs, .bool hf] #[.bool false, .bool false, .int .i64 0, .int .i64 a, .int .i64 0, .int .i64 0, .int .i64 wd, .int .i64 sa, .int .i64 0, .int .u32 sz, .int .u32 x, .bool hs, .bool b]) :
    Code.wp Tryf.prog ((Tryf.f24.body.bind (fromReg 22)).getD .skip) (bodyPost Tryf.prog Tryf.f24 fun e w' => MPost (MFacts B bd en sz fl hs hf base next left) e ∧ Below w.heap.size w w') ⟨#[.slice (some ⟨F, 0, none⟩) len cap, .int .i64 far, .int .u64 left, u3, u4, u5, u6, u7, u8, u9, .pointer (some ⟨w.heap.size, 0, none⟩), .pointer (some ⟨w.heap.size + 1, 0, none⟩), u12, u13, .pointer (some ⟨w.heap.size + 1 + 1, 0, none⟩), .pointer (some ⟨w.heap.size + 1 + 1 + 1, 0, none⟩), u16, .int .u32 f, .slice (some ⟨F, bd + 4, none⟩) (en - bd - 4) (cap - bd - 4), .int .i64 (4 + 4 * bitI f 1 + 4 * bitI f 4), .int .u32 cnt, u21, u22, u23, u24, u25, u26, u27, u28, u29, u30, u31, u32, u33, u34, u35, u36, u37, u38, u39, u40, u41, u42, u43, u44, u45, u46, u47, u48, u49, u50, u51, u52, u53, u54, u55, u56, u57, u58, u59, u60, u61, u62, u63, u64, u65, u66, u67, u68, u69, u70, u71, u72, u73, u74, u75, u76, u77, u78, u79, u80, u81, u82, u83, u84, u85, u86, u87, u88, u89, u90, u91, u92, u93, u94, u95, u96, u97, u98, u99, u100, u101, u102, u103, u104, u105, u106, u107, u108, u109, u110, u111, u112, u113, u114, u115, u116, u117, u118, u119, u120, u121, u122, u123, u124, u125, u126, u127, u128, u129, u130, u131, u132, u133, u134, u135, u136, u137, u138, u139, u140, u141, u142, u143, u144, u145, u146, u147, u148, u149, u150, u151, u152, u153, u154, u155, u156, u157, u158, u159, u160, u161, u162, u163, u164, u165, u166, u167, u168, u169, u170, u171, u172, u173, u174, u175, u176, u177, u178, u179, u180, u181, u182, u183, u184, u185, u186, u187, u188, u189, u190, u191, u192, u193, u194, u195, u196, u197, u198, u199, u200, u201, u202, u203, u204, u205, u206, u207, u208, u209, u210, u211, u212, u213, u214, u215, u216, u217, u218, u219, u220], []⟩ wA := by
  have HM : Hid (cnt * wd ≤ en - ((bd : Int) + 4 + (4 + 4 * bitI f 1 + 4 * bitI f 4)) → cnt ≤ left → (1 ≤ cnt → (hs = true ∨ 0 ≤ sa) ∧ (b = true ∨ 0 ≤ fa)) → (2 ≤ cnt → (hs = true ∨ 0 ≤ sa) ∧ (hf = true ∨ 0 ≤ fa)) → MFacts B bd en sz fl hs hf base next left cnt a ((bd : Int) + 4 + (4 + 4 * bitI f 1 + 4 * bitI f 4)) wd sa fa sz x hs b) := hM
  have HA : Hid (MAt w wA #[.int .u8 t0, .int .u8 t1, .int .u8 t2, .int .u8 t3, .int .i64 st, .int .i64 bd, .int .i64 en] #[.int .u32 sz, .int .u32 fl, .bool hs, .bool hf] #[.bool false, .bool false, .int .i64 0, .int .i64 a, .int .i64 0, .int .i64 0, .int .i64 wd, .int .i64 sa, .int .i64 0, .int .u32 sz, .int .u32 x, .bool hs, .bool b]) := hA
  have HSW : Hid (0 ≤ sa → sa + 4 ≤ wd) := hsw
  have HR : Hid (Row w F len B) := hR
  have HB : Hid (Byte B) := hB
  have HFA : Hid (fa = faOf f) := hfa
  clear hfa
  clear hM hR hB hsw hA
  conv => arg 2; whnf
  have mC : ∀ i, wA.cell? ⟨w.heap.size + 1 + 1 + 1, i, none⟩ = (#[.bool false, .bool false, .int .i64 0, .int .i64 a, .int .i64 0, .int .i64 0, .int .i64 wd, .int .i64 sa, .int .i64 0, .int .u32 sz, .int .u32 x, .bool hs, .bool b] : Array Value)[i]? := by intro i; simp [World.cell?, HA.out.mm]
  have mF : ∀ i, wA.frozen? ⟨w.heap.size + 1 + 1 + 1, i, none⟩ = false := by intro i; simp [World.frozen?, HA.out.mm]
  have dC : ∀ i, wA.cell? ⟨w.heap.size + 1, i, none⟩ = (#[.int .u32 sz, .int .u32 fl, .bool hs, .bool hf] : Array Value)[i]? := by intro i; simp [World.cell?, HA.out.dd]
  have aC : ∀ i, wA.cell? ⟨w.heap.size, i, none⟩ = (#[.int .u8 t0, .int .u8 t1, .int .u8 t2, .int .u8 t3, .int .i64 st, .int .i64 bd, .int .i64 en] : Array Value)[i]? := by intro i; simp [World.cell?, HA.out.aa]
  have zC : ∀ i, wA.cell? ⟨w.heap.size + 1 + 1, i, none⟩ = (#[.bool false, .bool false, .int .i64 0, .int .i64 0, .int .i64 0, .int .i64 0, .int .i64 0, .int .i64 0, .int .i64 0, .int .u32 0, .int .u32 0, .bool false, .bool false] : Array Value)[i]? := by intro i; simp [World.cell?, HA.out.zz]
  have zF : ∀ i, wA.frozen? ⟨w.heap.size + 1 + 1, i, none⟩ = false := by intro i; simp [World.frozen?, HA.out.zz]
  have HP1 : Hid (MAt w (wA.setCell ⟨w.heap.size + 1 + 1 + 1, 8, none⟩ (.int .i64 (-1))) #[.int .u8 t0, .int .u8 t1, .int .u8 t2, .int .u8 t3, .int .i64 st, .int .i64 bd, .int .i64 en] #[.int .u32 sz, .int .u32 fl, .bool hs, .bool hf] #[.bool false, .bool false, .int .i64 0, .int .i64 a, .int .i64 0, .int .i64 0, .int .i64 wd, .int .i64 sa, .int .i64 (-1), .int .u32 sz, .int .u32 x, .bool hs, .bool b]) := HA.out.put 8 (.int .i64 (-1))
  go_upto_if 106 with fail
  go_cut [] (fun wx => Hid (MAt w wx #[.int .u8 t0, .int .u8 t1, .int .u8 t2, .int .u8 t3, .int .i64 st, .int .i64 bd, .int .i64 en] #[.int .u32 sz, .int .u32 fl, .bool hs, .bool hf] #[.bool false, .bool false, .int .i64 0, .int .i64 a, .int .i64 0, .int .i64 0, .int .i64 wd, .int .i64 sa, .int .i64 fa, .int .u32 sz, .int .u32 x, .bool hs, .bool b]))
  case first =>
    cases c1 : (bits .and .u32 f 1024 != 0)
    · have HX : Hid (fa = -1) := by show _ = _; rw [HFA.out]; unfold faOf hasBit; rw [c1]; rfl
      go_wp2
      go_meet
      rw [HX.out]
      exact HP1
    · have HX : Hid (fa = 4 * (bitI f 256 + bitI f 512)) := by show _ = _; rw [HFA.out]; unfold faOf hasBit; rw [c1]; rfl
      go_wp2_with fail
      refine (bit_any f 256 _).mono ?_
      rintro e w2 ⟨rfl, hw⟩; subst hw
      go_wp2_with fail
      refine (bit_any f 512 _).mono ?_
      rintro e w2 ⟨rfl, hw⟩; subst hw
      go_wp2
      go_meet
      rw [HX.out]
      exact HP1.out.put 8 _
  case rest =>
    have HA2 : Hid (MAt w wc #[.int .u8 t0, .int .u8 t1, .int .u8 t2, .int .u8 t3, .int .i64 st, .int .i64 bd, .int .i64 en] #[.int .u32 sz, .int .u32 fl, .bool hs, .bool hf] #[.bool false, .bool false, .int .i64 0, .int .i64 a, .int .i64 0, .int .i64 0, .int .i64 wd, .int .i64 sa, .int .i64 fa, .int .u32 sz, .int .u32 x, .bool hs, .bool b]) := hcut
    rename_i KB hKB
    refine hKB _ _ ?_
    exact model_25 F len cap B far left t0 t1 t2 t3 st sz fl bd en hs hf base next w _ f cnt a wd sa fa x b _ _ _ _ _ _ _ _ _ _ _ _ _ _ _ _ _ _ _ _ _ _ _ _ _ _ _ _ _ _ _ _ _ _ _ _ _ _ _ _ _ _ _ _ _ _ _ _ _ _ _ _ _ _ _ _ _ _ _ _ _ _ _ _ _ _ _ _ _ _ _ _ _ _ _ _ _ _ _ _ _ _ _ _ _ _ _ _ _ _ _ _ _ _ _ _ _ _ _ _ _ _ _ _ _ _ _ _ _ _ _ _ _ _ _ _ _ _ _ _ _ _ _ _ _ _ _ _ _ _ _ _ _ _ _ _ _ _ _ _ _ _ _ _ _ _ _ _ _ _ _ _ _ _ _ _ _ _ _ _ _ _ _ _ _ _ _ _ _ _ _ _ _ _ _ _ _ _ _ _ _ _ _ _ _ _ _ _ _ _ _ _ _ _ _ _ _ _ _ _ _ _ _ _ _ _ _ _ _ _ _ _ HR.out HB.out h2 h3 hl1 hsz0 hsz1 hc0 bb1 bb4 hc1 hl0 h1 hq hw0 hw1 hs0 hs1 HSW.out ha0 ha1 HM.out HA2.out

set_option maxRecDepth 1000000 in
set_option maxHeartbeats 4000000 in
theorem model_18 (F len cap : Nat) (B : Nat → Int) (far left t0 t1 t2 t3 st sz fl : Int) (bd en : Nat) (hs hf : Bool) (base next : Int) (w wA : World) (f cnt a wd sa fa x : Int) (b : Bool) (u3 u4 u5 u6 u7 u8 u9 u12 u13 u16 u21 u22 u23 u24 u25 u26 u27 u28 u29 u30 u31 u32 u33 u34 u35 u36 u37 u38 u39 u40 u41 u42 u43 u44 u45 u46 u47 u48 u49 u50 u51 u52 u53 u54 u55 u56 u57 u58 u59 u60 u61 u62 u63 u64 u65 u66 u67 u68 u69 u70 u71 u72 u73 u74 u75 u76 u77 u78 u79 u80 u81 u82 u83 u84 u85 u86 u87 u88 u89 u90 u91 u92 u93 u94 u95 u96 u97 u98 u99 u100 u101 u102 u103 u104 u105 u106 u107 u108 u109 u110 u111 u112 u113 u114 u115 u116 u117 u118 u119 u120 u121 u122 u123 u124 u125 u126 u127 u128 u129 u130 u131 u132 u133 u134 u135 u136 u137 u138 u139 u140 u141 u142 u143 u144 u145 u146 u147 u148 u149 u150 u151 u152 u153 u154 u155 u156 u157 u158 u159 u160 u161 u162 u163 u164 u165 u166 u167 u168 u169 u170 u171 u172 u173 u174 u175 u176 u177 u178 u179 u180 u181 u182 u183 u184 u185 u186 u187 u188 u189 u190 u191 u192 u193 u194 u195 u196 u197 u198 u199 u200 u201 u202 u203 u204 u205 u206 u207 u208 u209 u210 u211 u212 u213 u214 u215 u216 u217 u218 u219 u220 : Value)
    (hR : Row w F len B) (hB : Byte B) (h2 : en ≤ len) (h3 : len ≤ 1048576) (hl1 : left ≤ 65536) (hsz0 : 0 ≤ sz) (hsz1 : sz ≤ 4294967295) (hc0 : 0 ≤ cnt) (bb1 : 0 ≤ bitI f 1 ∧ bitI f 1 ≤ 1) (bb4 : 0 ≤ bitI f 4 ∧ bitI f 4 ≤ 1) (hc1 : cnt ≤ 4294967295) (hl0 : 0 ≤ left) (h1 : bd + 4 ≤ en) (hq : 8 + 4 * bitI f 1 + 4 * bitI f 4 ≤ (en : Int) - bd) (hw0 : 0 ≤ wd) (hw1 : wd ≤ 16) (hs0 : -1 ≤ sa) (hs1 : sa ≤ 4) (hsw : 0 ≤ sa → sa + 4 ≤ wd) (ha0 : -2147483648 ≤ a) (ha1 : a ≤ 4611686020574871552) (hfa : fa = faOf f) (hwd : wd = wdOf f) (hsa : sa = saOf f) (b256 : 0 ≤ bitI f 256 ∧ bitI f 256 ≤ 1) (b512 : 0 ≤ bitI f 512 ∧ bitI f 512 ≤ 1) (b1024 : 0 ≤ bitI f 1024 ∧ bitI f 1024 ≤ 1) (b2048 : 0 ≤ bitI f 2048 ∧ bitI f 2048 ≤ 1)
    (hM : cnt * wd ≤ en - ((bd : Int) + 4 + (4 + 4 * bitI f 1 + 4 * bitI f 4)) → cnt ≤ left → (1 ≤ cnt → (hs = true ∨ 0 ≤ sa) ∧ (b = true ∨ 0 ≤ fa)) → (2 ≤ cnt → (hs = true ∨ 0 ≤ sa) ∧ (hf = true ∨ 0 ≤ fa)) → MFacts B bd en sz fl hs hf base next left cnt a ((bd : Int) + 4 + (4 + 4 * bitI f 1 + 4 * bitI f 4)) wd sa fa sz x hs b)
    (hA : MAt w wA #[.int .u8 t0, .int .u8 t1, .int .u8 t2, .int .u8 t3, .int .i64 st, .int .i64 bd, .int .i64 en] #[.int .u32 sz, .int .u32 fl, .bool hs, .bool hf] #[.bool false, .bool false, .int .i64 0, .int .i64 a, .int .i64 0, .int .i64 0, .int .i64 0, .int .i64 0, .int .i64 0, .int .u32 sz, .int .u32 x, .bool hs, .bool b]) :
    Code.wp Tryf.prog ((Tryf.f24.body.bind (fromReg 18)).getD .skip) (bodyPost Tryf.prog Tryf.f24 fun e w' => MPost (MFacts B bd en sz fl hs hf base next left) e ∧ Below w.heap.size w w') ⟨#[.slice (some ⟨F, 0, none⟩) len cap, .int .i64 far, .int .u64 left, u3, u4, u5, u6, u7, u8, u9, .pointer (some ⟨w.heap.size, 0, none⟩), .pointer (some ⟨w.heap.size + 1, 0, none⟩), u12, u13, .pointer (some ⟨w.heap.size + 1 + 1, 0, none⟩), .pointer (some ⟨w.heap.size + 1 + 1 + 1, 0, none⟩), u16, .int .u32 f, .slice (some ⟨F, bd + 4, none⟩) (en - bd - 4) (cap - bd - 4), .int .i64 (4 + 4 * bitI f 1 + 4 * bitI f 4), .int .u32 cnt, u21, u22, u23, u24, u25, u26, u27, u28, u29, u30, u31, u32, u33, u34, u35, u36, u37, u38, u39, u40, u41, u42, u43, u44, u45, u46, u47, u48, u49, u50, u51, u52, u53, u54, u55, u56, u57, u58, u59, u60, u61, u62, u63, u64, u65, u66, u67, u68, u69, u70, u71, u72, u73, u74, u75, u76, u77, u78, u79, u80, u81, u82, u83, u84, u85, u86, u87, u88, u89, u90, u91, u92, u93, u94, u95, u96, u97, u98, u99, u100, u101, u102, u103, u104, u105, u106, u107, u108, u109, u110, u111, u112, u113, u114, u115, u116, u117, u118, u119, u120, u121, u122, u123, u124, u125, u126, u127, u128, u129, u130, u131, u132, u133, u134, u135, u136, u137, u138, u139, u140, u141, u142, u143, u144, u145, u146, u147, u148, u149, u150, u151, u152, u153, u154, u155, u156, u157, u158, u159, u160, u161, u162, u163, u164, u165, u166, u167, u168, u169, u170, u171, u172, u173, u174, u175, u176, u177, u178, u179, u180, u181, u182, u183, u184, u185, u186, u187, u188, u189, u190, u191, u192, u193, u194, u195, u196, u197, u198, u199, u200, u201, u202, u203, u204, u205, u206, u207, u208, u209, u210, u211, u212, u213, u214, u215, u216, u217, u218, u219, u220], []⟩ wA := by
  have HM : Hid (cnt * wd ≤ en - ((bd : Int) + 4 + (4 + 4 * bitI f 1 + 4 * bitI f 4)) → cnt ≤ left → (1 ≤ cnt → (hs = true ∨ 0 ≤ sa) ∧ (b = true ∨ 0 ≤ fa)) → (2 ≤ cnt → (hs = true ∨ 0 ≤ sa) ∧ (hf = true ∨ 0 ≤ fa)) → MFacts B bd en sz fl hs hf base next left cnt a ((bd : Int) + 4 + (4 + 4 * bitI f 1 + 4 * bitI f 4)) wd sa fa sz x hs b) := hM
  have HA : Hid (MAt w wA #[.int .u8 t0, .int .u8 t1, .int .u8 t2, .int .u8 t3, .int .i64 st, .int .i64 bd, .int .i64 en] #[.int .u32 sz, .int .u32 fl, .bool hs, .bool hf] #[.bool false, .bool false, .int .i64 0, .int .i64 a, .int .i64 0, .int .i64 0, .int .i64 0, .int .i64 0, .int .i64 0, .int .u32 sz, .int .u32 x, .bool hs, .bool b]) := hA
  have HSW : Hid (0 ≤ sa → sa + 4 ≤ wd) := hsw
  have HR : Hid (Row w F len B) := hR
  have HB : Hid (Byte B) := hB
  have HFA : Hid (fa = faOf f) := hfa
  have HWD : Hid (wd = wdOf f) := hwd
  have HSA : Hid (sa = saOf f) := hsa
  clear hfa hwd hsa
  clear hM hR hB hsw hA
  conv => arg 2; whnf
  have mC : ∀ i, wA.cell? ⟨w.heap.size + 1 + 1 + 1, i, none⟩ = (#[.bool false, .bool false, .int .i64 0, .int .i64 a, .int .i64 0, .int .i64 0, .int .i64 0, .int .i64 0, .int .i64 0, .int .u32 sz, .int .u32 x, .bool hs, .bool b] : Array Value)[i]? := by intro i; simp [World.cell?, HA.out.mm]
  have mF : ∀ i, wA.frozen? ⟨w.heap.size + 1 + 1 + 1, i, none⟩ = false := by intro i; simp [World.frozen?, HA.out.mm]
  have dC : ∀ i, wA.cell? ⟨w.heap.size + 1, i, none⟩ = (#[.int .u32 sz, .int .u32 fl, .bool hs, .bool hf] : Array Value)[i]? := by intro i; simp [World.cell?, HA.out.dd]
  have aC : ∀ i, wA.cell? ⟨w.heap.size, i, none⟩ = (#[.int .u8 t0, .int .u8 t1, .int .u8 t2, .int .u8 t3, .int .i64 st, .int .i64 bd, .int .i64 en] : Array Value)[i]? := by intro i; simp [World.cell?, HA.out.aa]
  have zC : ∀ i, wA.cell? ⟨w.heap.size + 1 + 1, i, none⟩ = (#[.bool false, .bool false, .int .i64 0, .int .i64 0, .int .i64 0, .int .i64 0, .int .i64 0, .int .i64 0, .int .i64 0, .int .u32 0, .int .u32 0, .bool false, .bool false] : Array Value)[i]? := by intro i; simp [World.cell?, HA.out.zz]
  have zF : ∀ i, wA.frozen? ⟨w.heap.size + 1 + 1, i, none⟩ = false := by intro i; simp [World.frozen?, HA.out.zz]
  have HP : Hid (∀ v y, MAt w ((wA.setCell ⟨w.heap.size + 1 + 1 + 1, 6, none⟩ (.int .i64 v)).setCell ⟨w.heap.size + 1 + 1 + 1, 7, none⟩ (.int .i64 y)) #[.int .u8 t0, .int .u8 t1, .int .u8 t2, .int .u8 t3, .int .i64 st, .int .i64 bd, .int .i64 en] #[.int .u32 sz, .int .u32 fl, .bool hs, .bool hf] #[.bool false, .bool false, .int .i64 0, .int .i64 a, .int .i64 0, .int .i64 0, .int .i64 v, .int .i64 y, .int .i64 0, .int .u32 sz, .int .u32 x, .bool hs, .bool b]) := fun v y => (HA.out.put 6 (.int .i64 v)).put 7 (.int .i64 y)
  have HW : Hid (wd = 4 * (bitI f 256 + bitI f 512 + bitI f 1024 + bitI f 2048)) := HWD.out
  go_wp2_with fail
  refine (bit_any f 256 _).mono ?_
  rintro e w2 ⟨rfl, hw⟩; subst hw
  go_wp2_with fail
  refine (bit_any f 512 _).mono ?_
  rintro e w2 ⟨rfl, hw⟩; subst hw
  go_wp2_with fail
  refine (bit_any f 1024 _).mono ?_
  rintro e w2 ⟨rfl, hw⟩; subst hw
  go_wp2_with fail
  refine (bit_any f 2048 _).mono ?_
  rintro e w2 ⟨rfl, hw⟩; subst hw
  go_upto_if 98 with fail
  go_cut [] (fun wx => Hid (MAt w wx #[.int .u8 t0, .int .u8 t1, .int .u8 t2, .int .u8 t3, .int .i64 st, .int .i64 bd, .int .i64 en] #[.int .u32 sz, .int .u32 fl, .bool hs, .bool hf] #[.bool false, .bool false, .int .i64 0, .int .i64 a, .int .i64 0, .int .i64 0, .int .i64 wd, .int .i64 sa, .int .i64 0, .int .u32 sz, .int .u32 x, .bool hs, .bool b]))
  case first =>
    cases c1 : (bits .and .u32 f 512 != 0)
    · have HX : Hid (sa = -1) := by show _ = _; rw [HSA.out]; unfold saOf hasBit; rw [c1]; rfl
      go_wp2
      go_meet
      rw [HX.out, HW.out]
      exact HP.out _ _
    · have HX : Hid (sa = 4 * bitI f 256) := by show _ = _; rw [HSA.out]; unfold saOf hasBit; rw [c1]; rfl
      go_wp2_with fail
      refine (bit_any f 256 _).mono ?_
      rintro e w2 ⟨rfl, hw⟩; subst hw
      go_wp2
      go_meet
      rw [HX.out, HW.out]
      exact (HP.out _ _).put 7 _
  case rest =>
    have HA2 : Hid (MAt w wc #[.int .u8 t0, .int .u8 t1, .int .u8 t2, .int .u8 t3, .int .i64 st, .int .i64 bd, .int .i64 en] #[.int .u32 sz, .int .u32 fl, .bool hs, .bool hf] #[.bool false, .bool false, .int .i64 0, .int .i64 a, .int .i64 0, .int .i64 0, .int .i64 wd, .int .i64 sa, .int .i64 0, .int .u32 sz, .int .u32 x, .bool hs, .bool b]) := hcut
    rename_i KB hKB
    refine hKB _ _ ?_
    exact model_22 F len cap B far left t0 t1 t2 t3 st sz fl bd en hs hf base next w _ f cnt a wd sa fa x b _ _ _ _ _ _ _ _ _ _ _ _ _ _ _ _ _ _ _ _ _ _ _ _ _ _ _ _ _ _ _ _ _ _ _ _ _ _ _ _ _ _ _ _ _ _ _ _ _ _ _ _ _ _ _ _ _ _ _ _ _ _ _ _ _ _ _ _ _ _ _ _ _ _ _ _ _ _ _ _ _ _ _ _ _ _ _ _ _ _ _ _ _ _ _ _ _ _ _ _ _ _ _ _ _ _ _ _ _ _ _ _ _ _ _ _ _ _ _ _ _ _ _ _ _ _ _ _ _ _ _ _ _ _ _ _ _ _ _ _ _ _ _ _ _ _ _ _ _ _ _ _ _ _ _ _ _ _ _ _ _ _ _ _ _ _ _ _ _ _ _ _ _ _ _ _ _ _ _ _ _ _ _ _ _ _ _ _ _ _ _ _ _ _ _ _ _ _ _ _ _ _ _ _ _ _ _ _ _ _ HR.out HB.out h2 h3 hl1 hsz0 hsz1 hc0 bb1 bb4 hc1 hl0 h1 hq hw0 hw1 hs0 hs1 HSW.out ha0 ha1 HFA.out b256 b512 HM.out HA2.out

set_option maxRecDepth 1000000 in
set_option maxHeartbeats 4000000 in
theorem model_14 (F len cap : Nat) (B : Nat → Int) (far left t0 t1 t2 t3 st sz fl : Int) (bd en : Nat) (hs hf : Bool) (base next : Int) (w wA : World) (f cnt a wd sa fa x : Int) (b : Bool) (hd : Nat) (u3 u4 u5 u6 u7 u8 u9 u12 u13 u16 u21 u22 u23 u24 u25 u26 u27 u28 u29 u30 u31 u32 u33 u34 u35 u36 u37 u38 u39 u40 u41 u42 u43 u44 u45 u46 u47 u48 u49 u50 u51 u52 u53 u54 u55 u56 u57 u58 u59 u60 u61 u62 u63 u64 u65 u66 u67 u68 u69 u70 u71 u72 u73 u74 u75 u76 u77 u78 u79 u80 u81 u82 u83 u84 u85 u86 u87 u88 u89 u90 u91 u92 u93 u94 u95 u96 u97 u98 u99 u100 u101 u102 u103 u104 u105 u106 u107 u108 u109 u110 u111 u112 u113 u114 u115 u116 u117 u118 u119 u120 u121 u122 u123 u124 u125 u126 u127 u128 u129 u130 u131 u132 u133 u134 u135 u136 u137 u138 u139 u140 u141 u142 u143 u144 u145 u146 u147 u148 u149 u150 u151 u152 u153 u154 u155 u156 u157 u158 u159 u160 u161 u162 u163 u164 u165 u166 u167 u168 u169 u170 u171 u172 u173 u174 u175 u176 u177 u178 u179 u180 u181 u182 u183 u184 u185 u186 u187 u188 u189 u190 u191 u192 u193 u194 u195 u196 u197 u198 u199 u200 u201 u202 u203 u204 u205 u206 u207 u208 u209 u210 u211 u212 u213 u214 u215 u216 u217 u218 u219 u220 : Value)
    (hR : Row w F len B) (hB : Byte B) (h2 : en ≤ len) (h3 : len ≤ 1048576) (hl1 : left ≤ 65536) (hsz0 : 0 ≤ sz) (hsz1 : sz ≤ 4294967295) (hc0 : 0 ≤ cnt) (bb1 : 0 ≤ bitI f 1 ∧ bitI f 1 ≤ 1) (bb4 : 0 ≤ bitI f 4 ∧ bitI f 4 ≤ 1) (hc1 : cnt ≤ 4294967295) (hl0 : 0 ≤ left) (h1 : bd + 4 ≤ en) (hq : 8 + 4 * bitI f 1 + 4 * bitI f 4 ≤ (en : Int) - bd) (hw0 : 0 ≤ wd) (hw1 : wd ≤ 16) (hs0 : -1 ≤ sa) (hs1 : sa ≤ 4) (hsw : 0 ≤ sa → sa + 4 ≤ wd) (ha0 : -2147483648 ≤ a) (ha1 : a ≤ 4611686020574871552) (hfa : fa = faOf f) (hwd : wd = wdOf f) (hsa : sa = saOf f) (hx : x = if hasBit f 4 then be B (bd + hd) else fl) (hb : b = (hasBit f 4 || hf)) (hhd : (hd : Int) = (4 + 4 * bitI f 1 + 4 * bitI f 4)) (b256 : 0 ≤ bitI f 256 ∧ bitI f 256 ≤ 1) (b512 : 0 ≤ bitI f 512 ∧ bitI f 512 ≤ 1) (b1024 : 0 ≤ bitI f 1024 ∧ bitI f 1024 ≤ 1) (b2048 : 0 ≤ bitI f 2048 ∧ bitI f 2048 ≤ 1)
    (hM : cnt * wd ≤ en - ((bd : Int) + 4 + (4 + 4 * bitI f 1 + 4 * bitI f 4)) → cnt ≤ left → (1 ≤ cnt → (hs = true ∨ 0 ≤ sa) ∧ (b = true ∨ 0 ≤ fa)) → (2 ≤ cnt → (hs = true ∨ 0 ≤ sa) ∧ (hf = true ∨ 0 ≤ fa)) → MFacts B bd en sz fl hs hf base next left cnt a ((bd : Int) + 4 + (4 + 4 * bitI f 1 + 4 * bitI f 4)) wd sa fa sz x hs b)
    (hA : MAt w wA #[.int .u8 t0, .int .u8 t1, .int .u8 t2, .int .u8 t3, .int .i64 st, .int .i64 bd, .int .i64 en] #[.int .u32 sz, .int .u32 fl, .bool hs, .bool hf] #[.bool false, .bool false, .int .i64 0, .int .i64 a, .int .i64 0, .int .i64 0, .int .i64 0, .int .i64 0, .int .i64 0, .int .u32 0, .int .u32 0, .bool false, .bool false]) :
    Code.wp Tryf.prog ((Tryf.f24.body.bind (fromReg 14)).getD .skip) (bodyPost Tryf.prog Tryf.f24 fun e w' => MPost (MFacts B bd en sz fl hs hf base next left) e ∧ Below w.heap.size w w') ⟨#[.slice (some ⟨F, 0, none⟩) len cap, .int .i64 far, .int .u64 left, u3, u4, u5, u6, u7, u8, u9, .pointer (some ⟨w.heap.size, 0, none⟩), .pointer (some ⟨w.heap.size + 1, 0, none⟩), u12, u13, .pointer (some ⟨w.heap.size + 1 + 1, 0, none⟩), .pointer (some ⟨w.heap.size + 1 + 1 + 1, 0, none⟩), u16, .int .u32 f, .slice (some ⟨F, bd + 4, none⟩) (en - bd - 4) (cap - bd - 4), .int .i64 (4 + 4 * bitI f 1 + 4 * bitI f 4), .int .u32 cnt, u21, u22, u23, u24, u25, u26, u27, u28, u29, u30, u31, u32, u33, u34, u35, u36, u37, u38, u39, u40, u41, u42, u43, u44, u45, u46, u47, u48, u49, u50, u51, u52, u53, u54, u55, u56, u57, u58, u59, u60, u61, u62, u63, u64, u65, u66, u67, u68, u69, u70, u71, u72, u73, u74, u75, u76, u77, u78, u79, u80, u81, u82, u83, u84, u85, u86, u87, u88, u89, u90, u91, u92, u93, u94, u95, u96, u97, u98, u99, u100, u101, u102, u103, u104, u105, u106, u107, u108, u109, u110, u111, u112, u113, u114, u115, u116, u117, u118, u119, u120, u121, u122, u123, u124, u125, u126, u127, u128, u129, u130, u131, u132, u133, u134, u135, u136, u137, u138, u139, u140, u141, u142, u143, u144, u145, u146, u147, u148, u149, u150, u151, u152, u153, u154, u155, u156, u157, u158, u159, u160, u161, u162, u163, u164, u165, u166, u167, u168, u169, u170, u171, u172, u173, u174, u175, u176, u177, u178, u179, u180, u181, u182, u183, u184, u185, u186, u187, u188, u189, u190, u191, u192, u193, u194, u195, u196, u197, u198, u199, u200, u201, u202, u203, u204, u205, u206, u207, u208, u209, u210, u211, u212, u213, u214, u215, u216, u217, u218, u219, u220], []⟩ wA := by
  have HM : Hid (cnt * wd ≤ en - ((bd : Int) + 4 + (4 + 4 * bitI f 1 + 4 * bitI f 4)) → cnt ≤ left → (1 ≤ cnt → (hs = true ∨ 0 ≤ sa) ∧ (b = true ∨ 0 ≤ fa)) → (2 ≤ cnt → (hs = true ∨ 0 ≤ sa) ∧ (hf = true ∨ 0 ≤ fa)) → MFacts B bd en sz fl hs hf base next left cnt a ((bd : Int) + 4 + (4 + 4 * bitI f 1 + 4 * bitI f 4)) wd sa fa sz x hs b) := hM
  have HA : Hid (MAt w wA #[.int .u8 t0, .int .u8 t1, .int .u8 t2, .int .u8 t3, .int .i64 st, .int .i64 bd, .int .i64 en] #[.int .u32 sz, .int .u32 fl, .bool hs, .bool hf] #[.bool false, .bool false, .int .i64 0, .int .i64 a, .int .i64 0, .int .i64 0, .int .i64 0, .int .i64 0, .int .i64 0, .int .u32 0, .int .u32 0, .bool false, .bool false]) := hA
  have HSW : Hid (0 ≤ sa → sa + 4 ≤ wd) := hsw
  have HR : Hid (Row w F len B) := hR
  have HB : Hid (Byte B) := hB
  have HFA : Hid (fa = faOf f) := hfa
  have HWD : Hid (wd = wdOf f) := hwd
  have HSA : Hid (sa = saOf f) := hsa
  have HX : Hid (x = if hasBit f 4 then be B (bd + hd) else fl) := hx
  have HBf : Hid (b = (hasBit f 4 || hf)) := hb
  have HHD : Hid ((hd : Int) = (4 + 4 * bitI f 1 + 4 * bitI f 4)) := hhd
  clear hfa hwd hsa hx hb hhd
  clear hM hR hB hsw hA
  conv => arg 2; whnf
  have mC : ∀ i, wA.cell? ⟨w.heap.size + 1 + 1 + 1, i, none⟩ = (#[.bool false, .bool false, .int .i64 0, .int .i64 a, .int .i64 0, .int .i64 0, .int .i64 0, .int .i64 0, .int .i64 0, .int .u32 0, .int .u32 0, .bool false, .bool false] : Array Value)[i]? := by intro i; simp [World.cell?, HA.out.mm]
  have mF : ∀ i, wA.frozen? ⟨w.heap.size + 1 + 1 + 1, i, none⟩ = false := by intro i; simp [World.frozen?, HA.out.mm]
  have dC : ∀ i, wA.cell? ⟨w.heap.size + 1, i, none⟩ = (#[.int .u32 sz, .int .u32 fl, .bool hs, .bool hf] : Array Value)[i]? := by intro i; simp [World.cell?, HA.out.dd]
  have aC : ∀ i, wA.cell? ⟨w.heap.size, i, none⟩ = (#[.int .u8 t0, .int .u8 t1, .int .u8 t2, .int .u8 t3, .int .i64 st, .int .i64 bd, .int .i64 en] : Array Value)[i]? := by intro i; simp [World.cell?, HA.out.aa]
  have zC : ∀ i, wA.cell? ⟨w.heap.size + 1 + 1, i, none⟩ = (#[.bool false, .bool false, .int .i64 0, .int .i64 0, .int .i64 0, .int .i64 0, .int .i64 0, .int .i64 0, .int .i64 0, .int .u32 0, .int .u32 0, .bool false, .bool false] : Array Value)[i]? := by intro i; simp [World.cell?, HA.out.zz]
  have zF : ∀ i, wA.frozen? ⟨w.heap.size + 1 + 1, i, none⟩ = false := by intro i; simp [World.frozen?, HA.out.zz]
  have hFlt := HR.out.lt
  go_upto_if 73 with fail
  have HP : Hid (MAt w ((((wA.setCell ⟨w.heap.size + 1 + 1 + 1, 9, none⟩ (.int .u32 sz)).setCell ⟨w.heap.size + 1 + 1 + 1, 10, none⟩ (.int .u32 fl)).setCell ⟨w.heap.size + 1 + 1 + 1, 11, none⟩ (.bool hs)).setCell ⟨w.heap.size + 1 + 1 + 1, 12, none⟩ (.bool hf)) #[.int .u8 t0, .int .u8 t1, .int .u8 t2, .int .u8 t3, .int .i64 st, .int .i64 bd, .int .i64 en] #[.int .u32 sz, .int .u32 fl, .bool hs, .bool hf] #[.bool false, .bool false, .int .i64 0, .int .i64 a, .int .i64 0, .int .i64 0, .int .i64 0, .int .i64 0, .int .i64 0, .int .u32 sz, .int .u32 fl, .bool hs, .bool hf]) := (((HA.out.put 9 (.int .u32 sz)).put 10 (.int .u32 fl)).put 11 (.bool hs)).put 12 (.bool hf)
  clear HA mC mF dC aC zC zF
  generalize (((wA.setCell ⟨w.heap.size + 1 + 1 + 1, 9, none⟩ (.int .u32 sz)).setCell ⟨w.heap.size + 1 + 1 + 1, 10, none⟩ (.int .u32 fl)).setCell ⟨w.heap.size + 1 + 1 + 1, 11, none⟩ (.bool hs)).setCell ⟨w.heap.size + 1 + 1 + 1, 12, none⟩ (.bool hf) = w1 at HP ⊢
  have mC : ∀ i, w1.cell? ⟨w.heap.size + 1 + 1 + 1, i, none⟩ = (#[.bool false, .bool false, .int .i64 0, .int .i64 a, .int .i64 0, .int .i64 0, .int .i64 0, .int .i64 0, .int .i64 0, .int .u32 sz, .int .u32 fl, .bool hs, .bool hf] : Array Value)[i]? := by intro i; simp [World.cell?, HP.out.mm]
  have mF : ∀ i, w1.frozen? ⟨w.heap.size + 1 + 1 + 1, i, none⟩ = false := by intro i; simp [World.frozen?, HP.out.mm]
  have dC : ∀ i, w1.cell? ⟨w.heap.size + 1, i, none⟩ = (#[.int .u32 sz, .int .u32 fl, .bool hs, .bool hf] : Array Value)[i]? := by intro i; simp [World.cell?, HP.out.dd]
  have aC : ∀ i, w1.cell? ⟨w.heap.size, i, none⟩ = (#[.int .u8 t0, .int .u8 t1, .int .u8 t2, .int .u8 t3, .int .i64 st, .int .i64 bd, .int .i64 en] : Array Value)[i]? := by intro i; simp [World.cell?, HP.out.aa]
  have zC : ∀ i, w1.cell? ⟨w.heap.size + 1 + 1, i, none⟩ = (#[.bool false, .bool false, .int .i64 0, .int .i64 0, .int .i64 0, .int .i64 0, .int .i64 0, .int .i64 0, .int .i64 0, .int .u32 0, .int .u32 0, .bool false, .bool false] : Array Value)[i]? := by intro i; simp [World.cell?, HP.out.zz]
  have zF : ∀ i, w1.frozen? ⟨w.heap.size + 1 + 1, i, none⟩ = false := by intro i; simp [World.frozen?, HP.out.zz]
  go_cut [] (fun wx => Hid (MAt w wx #[.int .u8 t0, .int .u8 t1, .int .u8 t2, .int .u8 t3, .int .i64 st, .int .i64 bd, .int .i64 en] #[.int .u32 sz, .int .u32 fl, .bool hs, .bool hf] #[.bool false, .bool false, .int .i64 0, .int .i64 a, .int .i64 0, .int .i64 0, .int .i64 0, .int .i64 0, .int .i64 0, .int .u32 sz, .int .u32 x, .bool hs, .bool b]))
  case first =>
    cases c1 : (bits .and .u32 f 4 != 0)
    · have HX2 : Hid (x = fl) := by show _ = _; rw [HX.out]; unfold hasBit; rw [c1]; rfl
      have HB2 : Hid (b = hf) := by show _ = _; rw [HBf.out]; unfold hasBit; rw [c1]; rfl
      go_wp2
      go_meet
      rw [HX2.out, HB2.out]
      exact HP
    · have HX2 : Hid (x = be B (bd + hd)) := by show _ = _; rw [HX.out]; unfold hasBit; rw [c1]; rfl
      have HB2 : Hid (b = true) := by show _ = _; rw [HBf.out]; unfold hasBit; rw [c1]; rfl
      have hb : 1 ≤ bitI f 4 := by unfold bitI hasBit; rw [c1]; decide
      have hh := HHD.out
      have hd8 : 8 ≤ hd := by omega
      have hdle : bd + hd + 4 ≤ en := by omega
      have EK : Hid (4 + 4 * bitI f 1 + 4 * bitI f 4 - 4 = ((hd - 4 : Nat) : Int)) := by show _ = _; omega
      have EI : Hid (be B (bd + hd) = be B (bd + 4 + (hd - 4))) := by show _ = _; rw [show bd + 4 + (hd - 4) = bd + hd by omega]
      clear hh
      go_wp2_with fail
      rw [EK.out]
      refine (be32_at F len (bd + 4) (en - bd - 4) (cap - bd - 4) B (hd - 4) w1 (be B (bd + hd)) EI.out (HR.out.below HP.out.below hFlt) HB.out h3 (by omega) (by omega)).mono ?_
      rintro e w3 ⟨rfl, n3, hw3⟩
      have HP3 : Hid (MAt w w3 #[.int .u8 t0, .int .u8 t1, .int .u8 t2, .int .u8 t3, .int .i64 st, .int .i64 bd, .int .i64 en] #[.int .u32 sz, .int .u32 fl, .bool hs, .bool hf] #[.bool false, .bool false, .int .i64 0, .int .i64 a, .int .i64 0, .int .i64 0, .int .i64 0, .int .i64 0, .int .i64 0, .int .u32 sz, .int .u32 fl, .bool hs, .bool hf]) := HP.out.step (by rw [hw3]; exact below_drewN (Below.refl _ _) _)
      clear hw3 HP mC mF dC aC zC zF
      have mC : ∀ i, w3.cell? ⟨w.heap.size + 1 + 1 + 1, i, none⟩ = (#[.bool false, .bool false, .int .i64 0, .int .i64 a, .int .i64 0, .int .i64 0, .int .i64 0, .int .i64 0, .int .i64 0, .int .u32 sz, .int .u32 fl, .bool hs, .bool hf] : Array Value)[i]? := by intro i; simp [World.cell?, HP3.out.mm]
      have mF : ∀ i, w3.frozen? ⟨w.heap.size + 1 + 1 + 1, i, none⟩ = false := by intro i; simp [World.frozen?, HP3.out.mm]
      have dC : ∀ i, w3.cell? ⟨w.heap.size + 1, i, none⟩ = (#[.int .u32 sz, .int .u32 fl, .bool hs, .bool hf] : Array Value)[i]? := by intro i; simp [World.cell?, HP3.out.dd]
      have aC : ∀ i, w3.cell? ⟨w.heap.size, i, none⟩ = (#[.int .u8 t0, .int .u8 t1, .int .u8 t2, .int .u8 t3, .int .i64 st, .int .i64 bd, .int .i64 en] : Array Value)[i]? := by intro i; simp [World.cell?, HP3.out.aa]
      have zC : ∀ i, w3.cell? ⟨w.heap.size + 1 + 1, i, none⟩ = (#[.bool false, .bool false, .int .i64 0, .int .i64 0, .int .i64 0, .int .i64 0, .int .i64 0, .int .i64 0, .int .i64 0, .int .u32 0, .int .u32 0, .bool false, .bool false] : Array Value)[i]? := by intro i; simp [World.cell?, HP3.out.zz]
      have zF : ∀ i, w3.frozen? ⟨w.heap.size + 1 + 1, i, none⟩ = false := by intro i; simp [World.frozen?, HP3.out.zz]
      go_wp2
      go_meet
      rw [HX2.out, HB2.out]
      exact (HP3.out.put 10 _).put 12 _
  case rest =>
    have HA2 : Hid (MAt w wc #[.int .u8 t0, .int .u8 t1, .int .u8 t2, .int .u8 t3, .int .i64 st, .int .i64 bd, .int .i64 en] #[.int .u32 sz, .int .u32 fl, .bool hs, .bool hf] #[.bool false, .bool false, .int .i64 0, .int .i64 a, .int .i64 0, .int .i64 0, .int .i64 0, .int .i64 0, .int .i64 0, .int .u32 sz, .int .u32 x, .bool hs, .bool b]) := hcut
    rename_i KB hKB
    refine hKB _ _ ?_
    exact model_18 F len cap B far left t0 t1 t2 t3 st sz fl bd en hs hf base next w _ f cnt a wd sa fa x b _ _ _ _ _ _ _ _ _ _ _ _ _ _ _ _ _ _ _ _ _ _ _ _ _ _ _ _ _ _ _ _ _ _ _ _ _ _ _ _ _ _ _ _ _ _ _ _ _ _ _ _ _ _ _ _ _ _ _ _ _ _ _ _ _ _ _ _ _ _ _ _ _ _ _ _ _ _ _ _ _ _ _ _ _ _ _ _ _ _ _ _ _ _ _ _ _ _ _ _ _ _ _ _ _ _ _ _ _ _ _ _ _ _ _ _ _ _ _ _ _ _ _ _ _ _ _ _ _ _ _ _ _ _ _ _ _ _ _ _ _ _ _ _ _ _ _ _ _ _ _ _ _ _ _ _ _ _ _ _ _ _ _ _ _ _ _ _ _ _ _ _ _ _ _ _ _ _ _ _ _ _ _ _ _ _ _ _ _ _ _ _ _ _ _ _ _ _ _ _ _ _ _ _ _ _ _ _ _ _ HR.out HB.out h2 h3 hl1 hsz0 hsz1 hc0 bb1 bb4 hc1 hl0 h1 hq hw0 hw1 hs0 hs1 HSW.out ha0 ha1 HFA.out HWD.out HSA.out b256 b512 b1024 b2048 HM.out HA2.out
end Go.Proofs.Qxb6613648aFmt

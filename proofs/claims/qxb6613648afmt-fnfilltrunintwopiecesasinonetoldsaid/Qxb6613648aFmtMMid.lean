/-
  modelTrun, its middle: does the table fit; are sizes and flags told.
-/
import Derived.Test.Qxb6613648aFmtMTail
namespace Go.Proofs.Qxb6613648aFmt
open Go.RowKit
set_option linter.unusedVariables false
attribute [local go_sem] setCell_drewN alloc_drewN

set_option maxRecDepth 1000000 in
set_option maxHeartbeats 4000000 in
theorem model_36 (F len cap : Nat) (B : Nat → Int) (far left t0 t1 t2 t3 st sz fl : Int) (bd en : Nat) (hs hf : Bool) (base next : Int) (w wA : World) (cnt a ent wd sa fa x : Int) (b sd : Bool) (u2 u3 u4 u5 u6 u7 u8 u9 u12 u13 u16 u17 u18 u19 u20 u21 u23 u24 u25 u26 u27 u28 u29 u30 u31 u32 u33 u34 u35 u36 u37 u38 u39 u40 u41 u42 u43 u44 u45 u46 u47 u48 u49 u50 u51 u52 u53 u54 u55 u56 u57 u58 u59 u60 u61 u62 u63 u64 u65 u66 u67 u68 u69 u70 u71 u72 u73 u74 u75 u76 u77 u78 u79 u80 u81 u82 u83 u84 u85 u86 u87 u88 u89 u90 u91 u92 u93 u94 u95 u96 u97 u98 u99 u100 u101 u102 u103 u104 u105 u106 u107 u108 u109 u110 u111 u112 u113 u114 u115 u116 u117 u118 u119 u120 u121 u122 u123 u124 u125 u126 u127 u128 u129 u130 u131 u132 u133 u134 u135 u136 u137 u138 u139 u140 u141 u142 u143 u144 u145 u146 u147 u148 u149 u150 u151 u152 u153 u154 u155 u156 u157 u158 u159 u160 u161 u162 u163 u164 u165 u166 u167 u168 u169 u170 u171 u172 u173 u174 u175 u176 u177 u178 u179 u180 u181 u182 u183 u184 u185 u186 u187 u188 u189 u190 u191 u192 u193 u194 u195 u196 u197 u198 u199 u200 u201 u202 u203 u204 u205 u206 u207 u208 u209 u210 u211 u212 u213 u214 u215 u216 u217 u218 u219 u220 : Value)
    (hR : Row w F len B) (hB : Byte B) (h2 : en ≤ len) (h3 : len ≤ 1048576) (hl1 : left ≤ 65536) (hsz0 : 0 ≤ sz) (hsz1 : sz ≤ 4294967295) (hc0 : 0 ≤ cnt) (he0 : 0 ≤ ent) (hw0 : 0 ≤ wd) (hw1 : wd ≤ 16) (hs0 : -1 ≤ sa) (hs1 : sa ≤ 4) (hsw : 0 ≤ sa → sa + 4 ≤ wd) (ha0 : -2147483648 ≤ a) (ha1 : a ≤ 4611686020574871552)
    (hM : (2 ≤ cnt → sd = true ∧ (hf = true ∨ 0 ≤ fa)) → MFacts B bd en sz fl hs hf base next left cnt a ent wd sa fa sz x hs b)
    (hA : MAt w wA #[.int .u8 t0, .int .u8 t1, .int .u8 t2, .int .u8 t3, .int .i64 st, .int .i64 bd, .int .i64 en] #[.int .u32 sz, .int .u32 fl, .bool hs, .bool hf] #[.bool false, .bool true, .int .i64 cnt, .int .i64 a, .int .i64 ent, .int .i64 0, .int .i64 wd, .int .i64 sa, .int .i64 fa, .int .u32 sz, .int .u32 x, .bool hs, .bool b]) :
    Code.wp Tryf.prog ((Tryf.f24.body.bind (fromReg 36)).getD .skip) (bodyPost Tryf.prog Tryf.f24 fun e w' => MPost (MFacts B bd en sz fl hs hf base next left) e ∧ Below w.heap.size w w') ⟨#[.slice (some ⟨F, 0, none⟩) len cap, .int .i64 far, u2, u3, u4, u5, u6, u7, u8, u9, .pointer (some ⟨w.heap.size, 0, none⟩), .pointer (some ⟨w.heap.size + 1, 0, none⟩), u12, u13, .pointer (some ⟨w.heap.size + 1 + 1, 0, none⟩), .pointer (some ⟨w.heap.size + 1 + 1 + 1, 0, none⟩), u16, u17, u18, u19, u20, u21, .bool sd, u23, u24, u25, u26, u27, u28, u29, u30, u31, u32, u33, u34, u35, u36, u37, u38, u39, u40, u41, u42, u43, u44, u45, u46, u47, u48, u49, u50, u51, u52, u53, u54, u55, u56, u57, u58, u59, u60, u61, u62, u63, u64, u65, u66, u67, u68, u69, u70, u71, u72, u73, u74, u75, u76, u77, u78, u79, u80, u81, u82, u83, u84, u85, u86, u87, u88, u89, u90, u91, u92, u93, u94, u95, u96, u97, u98, u99, u100, u101, u102, u103, u104, u105, u106, u107, u108, u109, u110, u111, u112, u113, u114, u115, u116, u117, u118, u119, u120, u121, u122, u123, u124, u125, u126, u127, u128, u129, u130, u131, u132, u133, u134, u135, u136, u137, u138, u139, u140, u141, u142, u143, u144, u145, u146, u147, u148, u149, u150, u151, u152, u153, u154, u155, u156, u157, u158, u159, u160, u161, u162, u163, u164, u165, u166, u167, u168, u169, u170, u171, u172, u173, u174, u175, u176, u177, u178, u179, u180, u181, u182, u183, u184, u185, u186, u187, u188, u189, u190, u191, u192, u193, u194, u195, u196, u197, u198, u199, u200, u201, u202, u203, u204, u205, u206, u207, u208, u209, u210, u211, u212, u213, u214, u215, u216, u217, u218, u219, u220], []⟩ wA := by
  have HM : Hid ((2 ≤ cnt → sd = true ∧ (hf = true ∨ 0 ≤ fa)) → MFacts B bd en sz fl hs hf base next left cnt a ent wd sa fa sz x hs b) := hM
  have HA : Hid (MAt w wA #[.int .u8 t0, .int .u8 t1, .int .u8 t2, .int .u8 t3, .int .i64 st, .int .i64 bd, .int .i64 en] #[.int .u32 sz, .int .u32 fl, .bool hs, .bool hf] #[.bool false, .bool true, .int .i64 cnt, .int .i64 a, .int .i64 ent, .int .i64 0, .int .i64 wd, .int .i64 sa, .int .i64 fa, .int .u32 sz, .int .u32 x, .bool hs, .bool b]) := hA
  have HSW : Hid (0 ≤ sa → sa + 4 ≤ wd) := hsw
  have HR : Hid (Row w F len B) := hR
  have HB : Hid (Byte B) := hB
  clear hM hR hB hsw hA
  conv => arg 2; whnf
  conv => arg 4; zeta
  have mC : ∀ i, wA.cell? ⟨w.heap.size + 1 + 1 + 1, i, none⟩ = (#[.bool false, .bool true, .int .i64 cnt, .int .i64 a, .int .i64 ent, .int .i64 0, .int .i64 wd, .int .i64 sa, .int .i64 fa, .int .u32 sz, .int .u32 x, .bool hs, .bool b] : Array Value)[i]? := by intro i; simp [World.cell?, HA.out.mm]
  have mF : ∀ i, wA.frozen? ⟨w.heap.size + 1 + 1 + 1, i, none⟩ = false := by intro i; simp [World.frozen?, HA.out.mm]
  have dC : ∀ i, wA.cell? ⟨w.heap.size + 1, i, none⟩ = (#[.int .u32 sz, .int .u32 fl, .bool hs, .bool hf] : Array Value)[i]? := by intro i; simp [World.cell?, HA.out.dd]
  have aC : ∀ i, wA.cell? ⟨w.heap.size, i, none⟩ = (#[.int .u8 t0, .int .u8 t1, .int .u8 t2, .int .u8 t3, .int .i64 st, .int .i64 bd, .int .i64 en] : Array Value)[i]? := by intro i; simp [World.cell?, HA.out.aa]
  have zC : ∀ i, wA.cell? ⟨w.heap.size + 1 + 1, i, none⟩ = (#[.bool false, .bool false, .int .i64 0, .int .i64 0, .int .i64 0, .int .i64 0, .int .i64 0, .int .i64 0, .int .i64 0, .int .u32 0, .int .u32 0, .bool false, .bool false] : Array Value)[i]? := by intro i; simp [World.cell?, HA.out.zz]
  have zF : ∀ i, wA.frozen? ⟨w.heap.size + 1 + 1, i, none⟩ = false := by intro i; simp [World.frozen?, HA.out.zz]
  go_upto_region 36 with fail
  go_cut [190] (fun s wx => (∃ t : Bool, s = .bool t ∧ Hid (t = false → (2 ≤ cnt → sd = true ∧ (hf = true ∨ 0 ≤ fa)))) ∧ wx = wA)
  case first =>
    by_cases hc1 : 2 ≤ cnt
    · have hd0 : decide (2 ≤ cnt) = true := decide_eq_true hc1
      cases sd
      · go_wp2
        go_meet
        exact ⟨⟨true, rfl, fun h => by cases h⟩, rfl⟩
      · cases hf
        · by_cases hfa : 0 ≤ fa
          · have hd1 : decide (0 ≤ fa) = true := decide_eq_true hfa
            go_wp2
            go_meet
            exact ⟨⟨false, by simp, fun _ _ => ⟨rfl, .inr hfa⟩⟩, rfl⟩
          · have hd1 : decide (0 ≤ fa) = false := decide_eq_false hfa
            go_wp2
            go_meet
            exact ⟨⟨true, by simp, fun h => by cases h⟩, rfl⟩
        · go_wp2
          go_meet
          exact ⟨⟨false, rfl, fun _ _ => ⟨rfl, .inl rfl⟩⟩, rfl⟩
    · have hd0 : decide (2 ≤ cnt) = false := decide_eq_false hc1
      have HC : Hid (¬ 2 ≤ cnt) := hc1
      go_wp2
      go_meet
      exact ⟨⟨false, rfl, fun _ h => absurd h (by have := HC.out; omega)⟩, rfl⟩
  case rest =>
    obtain ⟨⟨t, rfl, HT⟩, hwc⟩ := hcut
    subst hwc
    rename_i KA hKA KB hKB
    cases t with
    | true =>
      go_wp2
      exact bodyPost_ret (v := mV false true cnt a ent 0 wd sa fa sz x hs b) (by simp [results, Tryf.results24, go_sem, zC]) rfl ⟨.no, (((((((((((((HA.out.below.setCell (by simp; omega) _).setCell (by simp; omega) _).setCell (by simp; omega) _).setCell (by simp; omega) _).setCell (by simp; omega) _).setCell (by simp; omega) _).setCell (by simp; omega) _).setCell (by simp; omega) _).setCell (by simp; omega) _).setCell (by simp; omega) _).setCell (by simp; omega) _).setCell (by simp; omega) _).setCell (by simp; omega) _)⟩
    | false =>
      refine hKB _ _ (wp_cond_false rfl (wp_skip (hKA _ _ ?_)))
      exact model_tail F len cap B far left sz fl bd en hs hf base next w _ _ cnt a ent 0 wd sa fa x b _ _ _ _ _ _ _ _ _ _ _ _ _ _ _ _ _ _ _ _ _ _ _ _ _ _ _ _ _ _ _ _ _ _ _ _ _ _ _ _ _ _ _ _ _ _ _ _ _ _ _ _ _ _ _ _ _ _ _ _ _ _ _ _ _ _ _ _ _ _ _ _ _ _ _ _ _ _ _ _ _ _ _ _ _ _ _ _ _ _ _ _ _ _ _ _ _ _ _ _ _ _ _ _ _ _ _ _ _ _ _ _ _ _ _ _ _ _ _ _ _ _ _ _ _ _ _ _ _ _ _ _ _ _ _ _ _ _ _ _ _ _ _ _ _ _ _ _ _ _ _ _ _ _ _ _ _ _ _ _ _ _ _ _ _ _ _ _ _ _ _ _ _ _ _ _ _ _ _ _ _ _ _ _ _ _ _ _ _ _ _ _ _ _ _ _ _ _ _ _ _ _ _ _ _ _ _ _ _ _ _ _ _ _ _ _ HR.out HB.out h2 h3 hl1 hsz0 hsz1 hc0 he0 hw0 hw1 hs0 hs1 HSW.out ha0 ha1 (HM.out (HT.out rfl)) HA.out

set_option maxRecDepth 1000000 in
set_option maxHeartbeats 4000000 in
theorem model_34 (F len cap : Nat) (B : Nat → Int) (far left t0 t1 t2 t3 st sz fl : Int) (bd en : Nat) (hs hf : Bool) (base next : Int) (w wA : World) (cnt a ent wd sa fa x : Int) (b sd : Bool) (u2 u3 u4 u5 u6 u7 u8 u9 u12 u13 u16 u17 u18 u19 u20 u21 u23 u24 u25 u26 u27 u28 u29 u30 u31 u32 u33 u34 u35 u36 u37 u38 u39 u40 u41 u42 u43 u44 u45 u46 u47 u48 u49 u50 u51 u52 u53 u54 u55 u56 u57 u58 u59 u60 u61 u62 u63 u64 u65 u66 u67 u68 u69 u70 u71 u72 u73 u74 u75 u76 u77 u78 u79 u80 u81 u82 u83 u84 u85 u86 u87 u88 u89 u90 u91 u92 u93 u94 u95 u96 u97 u98 u99 u100 u101 u102 u103 u104 u105 u106 u107 u108 u109 u110 u111 u112 u113 u114 u115 u116 u117 u118 u119 u120 u121 u122 u123 u124 u125 u126 u127 u128 u129 u130 u131 u132 u133 u134 u135 u136 u137 u138 u139 u140 u141 u142 u143 u144 u145 u146 u147 u148 u149 u150 u151 u152 u153 u154 u155 u156 u157 u158 u159 u160 u161 u162 u163 u164 u165 u166 u167 u168 u169 u170 u171 u172 u173 u174 u175 u176 u177 u178 u179 u180 u181 u182 u183 u184 u185 u186 u187 u188 u189 u190 u191 u192 u193 u194 u195 u196 u197 u198 u199 u200 u201 u202 u203 u204 u205 u206 u207 u208 u209 u210 u211 u212 u213 u214 u215 u216 u217 u218 u219 u220 : Value)
    (hR : Row w F len B) (hB : Byte B) (h2 : en ≤ len) (h3 : len ≤ 1048576) (hl1 : left ≤ 65536) (hsz0 : 0 ≤ sz) (hsz1 : sz ≤ 4294967295) (hc0 : 0 ≤ cnt) (he0 : 0 ≤ ent) (hw0 : 0 ≤ wd) (hw1 : wd ≤ 16) (hs0 : -1 ≤ sa) (hs1 : sa ≤ 4) (hsw : 0 ≤ sa → sa + 4 ≤ wd) (ha0 : -2147483648 ≤ a) (ha1 : a ≤ 4611686020574871552)
    (hM : (1 ≤ cnt → sd = true ∧ (b = true ∨ 0 ≤ fa)) → (2 ≤ cnt → sd = true ∧ (hf = true ∨ 0 ≤ fa)) → MFacts B bd en sz fl hs hf base next left cnt a ent wd sa fa sz x hs b)
    (hA : MAt w wA #[.int .u8 t0, .int .u8 t1, .int .u8 t2, .int .u8 t3, .int .i64 st, .int .i64 bd, .int .i64 en] #[.int .u32 sz, .int .u32 fl, .bool hs, .bool hf] #[.bool false, .bool true, .int .i64 cnt, .int .i64 a, .int .i64 ent, .int .i64 0, .int .i64 wd, .int .i64 sa, .int .i64 fa, .int .u32 sz, .int .u32 x, .bool hs, .bool b]) :
    Code.wp Tryf.prog ((Tryf.f24.body.bind (fromReg 34)).getD .skip) (bodyPost Tryf.prog Tryf.f24 fun e w' => MPost (MFacts B bd en sz fl hs hf base next left) e ∧ Below w.heap.size w w') ⟨#[.slice (some ⟨F, 0, none⟩) len cap, .int .i64 far, u2, u3, u4, u5, u6, u7, u8, u9, .pointer (some ⟨w.heap.size, 0, none⟩), .pointer (some ⟨w.heap.size + 1, 0, none⟩), u12, u13, .pointer (some ⟨w.heap.size + 1 + 1, 0, none⟩), .pointer (some ⟨w.heap.size + 1 + 1 + 1, 0, none⟩), u16, u17, u18, u19, u20, u21, .bool sd, u23, u24, u25, u26, u27, u28, u29, u30, u31, u32, u33, u34, u35, u36, u37, u38, u39, u40, u41, u42, u43, u44, u45, u46, u47, u48, u49, u50, u51, u52, u53, u54, u55, u56, u57, u58, u59, u60, u61, u62, u63, u64, u65, u66, u67, u68, u69, u70, u71, u72, u73, u74, u75, u76, u77, u78, u79, u80, u81, u82, u83, u84, u85, u86, u87, u88, u89, u90, u91, u92, u93, u94, u95, u96, u97, u98, u99, u100, u101, u102, u103, u104, u105, u106, u107, u108, u109, u110, u111, u112, u113, u114, u115, u116, u117, u118, u119, u120, u121, u122, u123, u124, u125, u126, u127, u128, u129, u130, u131, u132, u133, u134, u135, u136, u137, u138, u139, u140, u141, u142, u143, u144, u145, u146, u147, u148, u149, u150, u151, u152, u153, u154, u155, u156, u157, u158, u159, u160, u161, u162, u163, u164, u165, u166, u167, u168, u169, u170, u171, u172, u173, u174, u175, u176, u177, u178, u179, u180, u181, u182, u183, u184, u185, u186, u187, u188, u189, u190, u191, u192, u193, u194, u195, u196, u197, u198, u199, u200, u201, u202, u203, u204, u205, u206, u207, u208, u209, u210, u211, u212, u213, u214, u215, u216, u217, u218, u219, u220], []⟩ wA := by
  have HM : Hid ((1 ≤ cnt → sd = true ∧ (b = true ∨ 0 ≤ fa)) → (2 ≤ cnt → sd = true ∧ (hf = true ∨ 0 ≤ fa)) → MFacts B bd en sz fl hs hf base next left cnt a ent wd sa fa sz x hs b) := hM
  have HA : Hid (MAt w wA #[.int .u8 t0, .int .u8 t1, .int .u8 t2, .int .u8 t3, .int .i64 st, .int .i64 bd, .int .i64 en] #[.int .u32 sz, .int .u32 fl, .bool hs, .bool hf] #[.bool false, .bool true, .int .i64 cnt, .int .i64 a, .int .i64 ent, .int .i64 0, .int .i64 wd, .int .i64 sa, .int .i64 fa, .int .u32 sz, .int .u32 x, .bool hs, .bool b]) := hA
  have HSW : Hid (0 ≤ sa → sa + 4 ≤ wd) := hsw
  have HR : Hid (Row w F len B) := hR
  have HB : Hid (Byte B) := hB
  clear hM hR hB hsw hA
  conv => arg 2; whnf
  conv => arg 4; zeta
  have mC : ∀ i, wA.cell? ⟨w.heap.size + 1 + 1 + 1, i, none⟩ = (#[.bool false, .bool true, .int .i64 cnt, .int .i64 a, .int .i64 ent, .int .i64 0, .int .i64 wd, .int .i64 sa, .int .i64 fa, .int .u32 sz, .int .u32 x, .bool hs, .bool b] : Array Value)[i]? := by intro i; simp [World.cell?, HA.out.mm]
  have mF : ∀ i, wA.frozen? ⟨w.heap.size + 1 + 1 + 1, i, none⟩ = false := by intro i; simp [World.frozen?, HA.out.mm]
  have dC : ∀ i, wA.cell? ⟨w.heap.size + 1, i, none⟩ = (#[.int .u32 sz, .int .u32 fl, .bool hs, .bool hf] : Array Value)[i]? := by intro i; simp [World.cell?, HA.out.dd]
  have aC : ∀ i, wA.cell? ⟨w.heap.size, i, none⟩ = (#[.int .u8 t0, .int .u8 t1, .int .u8 t2, .int .u8 t3, .int .i64 st, .int .i64 bd, .int .i64 en] : Array Value)[i]? := by intro i; simp [World.cell?, HA.out.aa]
  have zC : ∀ i, wA.cell? ⟨w.heap.size + 1 + 1, i, none⟩ = (#[.bool false, .bool false, .int .i64 0, .int .i64 0, .int .i64 0, .int .i64 0, .int .i64 0, .int .i64 0, .int .i64 0, .int .u32 0, .int .u32 0, .bool false, .bool false] : Array Value)[i]? := by intro i; simp [World.cell?, HA.out.zz]
  have zF : ∀ i, wA.frozen? ⟨w.heap.size + 1 + 1, i, none⟩ = false := by intro i; simp [World.frozen?, HA.out.zz]
  go_upto_region 34 with fail
  go_cut [172] (fun s wx => (∃ t : Bool, s = .bool t ∧ Hid (t = false → (1 ≤ cnt → sd = true ∧ (b = true ∨ 0 ≤ fa)))) ∧ wx = wA)
  case first =>
    by_cases hc1 : 1 ≤ cnt
    · have hd0 : decide (1 ≤ cnt) = true := decide_eq_true hc1
      cases sd
      · go_wp2
        go_meet
        exact ⟨⟨true, rfl, fun h => by cases h⟩, rfl⟩
      · cases b
        · by_cases hfa : 0 ≤ fa
          · have hd1 : decide (0 ≤ fa) = true := decide_eq_true hfa
            go_wp2
            go_meet
            exact ⟨⟨false, by simp, fun _ _ => ⟨rfl, .inr hfa⟩⟩, rfl⟩
          · have hd1 : decide (0 ≤ fa) = false := decide_eq_false hfa
            go_wp2
            go_meet
            exact ⟨⟨true, by simp, fun h => by cases h⟩, rfl⟩
        · go_wp2
          go_meet
          exact ⟨⟨false, rfl, fun _ _ => ⟨rfl, .inl rfl⟩⟩, rfl⟩
    · have hd0 : decide (1 ≤ cnt) = false := decide_eq_false hc1
      have HC : Hid (¬ 1 ≤ cnt) := hc1
      go_wp2
      go_meet
      exact ⟨⟨false, rfl, fun _ h => absurd h (by have := HC.out; omega)⟩, rfl⟩
  case rest =>
    obtain ⟨⟨t, rfl, HT⟩, hwc⟩ := hcut
    subst hwc
    rename_i KA hKA KB hKB
    cases t with
    | true =>
      go_wp2
      exact bodyPost_ret (v := mV false true cnt a ent 0 wd sa fa sz x hs b) (by simp [results, Tryf.results24, go_sem, zC]) rfl ⟨.no, (((((((((((((HA.out.below.setCell (by simp; omega) _).setCell (by simp; omega) _).setCell (by simp; omega) _).setCell (by simp; omega) _).setCell (by simp; omega) _).setCell (by simp; omega) _).setCell (by simp; omega) _).setCell (by simp; omega) _).setCell (by simp; omega) _).setCell (by simp; omega) _).setCell (by simp; omega) _).setCell (by simp; omega) _).setCell (by simp; omega) _)⟩
    | false =>
      refine hKB _ _ (wp_cond_false rfl (wp_skip (hKA _ _ ?_)))
      exact model_36 F len cap B far left t0 t1 t2 t3 st sz fl bd en hs hf base next w _ cnt a ent wd sa fa x b sd _ _ _ _ _ _ _ _ _ _ _ _ _ _ _ _ _ _ _ _ _ _ _ _ _ _ _ _ _ _ _ _ _ _ _ _ _ _ _ _ _ _ _ _ _ _ _ _ _ _ _ _ _ _ _ _ _ _ _ _ _ _ _ _ _ _ _ _ _ _ _ _ _ _ _ _ _ _ _ _ _ _ _ _ _ _ _ _ _ _ _ _ _ _ _ _ _ _ _ _ _ _ _ _ _ _ _ _ _ _ _ _ _ _ _ _ _ _ _ _ _ _ _ _ _ _ _ _ _ _ _ _ _ _ _ _ _ _ _ _ _ _ _ _ _ _ _ _ _ _ _ _ _ _ _ _ _ _ _ _ _ _ _ _ _ _ _ _ _ _ _ _ _ _ _ _ _ _ _ _ _ _ _ _ _ _ _ _ _ _ _ _ _ _ _ _ _ _ _ _ _ _ _ _ _ _ _ _ _ _ _ _ _ _ HR.out HB.out h2 h3 hl1 hsz0 hsz1 hc0 he0 hw0 hw1 hs0 hs1 HSW.out ha0 ha1 (HM.out (HT.out rfl)) HA.out

set_option maxRecDepth 1000000 in
set_option maxHeartbeats 4000000 in
theorem model_28 (F len cap : Nat) (B : Nat → Int) (far left t0 t1 t2 t3 st sz fl : Int) (bd en : Nat) (hs hf : Bool) (base next : Int) (w wA : World) (f cnt a wd sa fa x : Int) (b : Bool) (u3 u4 u5 u6 u7 u8 u9 u12 u13 u16 u17 u18 u21 u22 u23 u24 u25 u26 u27 u28 u29 u30 u31 u32 u33 u34 u35 u36 u37 u38 u39 u40 u41 u42 u43 u44 u45 u46 u47 u48 u49 u50 u51 u52 u53 u54 u55 u56 u57 u58 u59 u60 u61 u62 u63 u64 u65 u66 u67 u68 u69 u70 u71 u72 u73 u74 u75 u76 u77 u78 u79 u80 u81 u82 u83 u84 u85 u86 u87 u88 u89 u90 u91 u92 u93 u94 u95 u96 u97 u98 u99 u100 u101 u102 u103 u104 u105 u106 u107 u108 u109 u110 u111 u112 u113 u114 u115 u116 u117 u118 u119 u120 u121 u122 u123 u124 u125 u126 u127 u128 u129 u130 u131 u132 u133 u134 u135 u136 u137 u138 u139 u140 u141 u142 u143 u144 u145 u146 u147 u148 u149 u150 u151 u152 u153 u154 u155 u156 u157 u158 u159 u160 u161 u162 u163 u164 u165 u166 u167 u168 u169 u170 u171 u172 u173 u174 u175 u176 u177 u178 u179 u180 u181 u182 u183 u184 u185 u186 u187 u188 u189 u190 u191 u192 u193 u194 u195 u196 u197 u198 u199 u200 u201 u202 u203 u204 u205 u206 u207 u208 u209 u210 u211 u212 u213 u214 u215 u216 u217 u218 u219 u220 : Value)
    (hR : Row w F len B) (hB : Byte B) (h2 : en ≤ len) (h3 : len ≤ 1048576) (hl1 : left ≤ 65536) (hsz0 : 0 ≤ sz) (hsz1 : sz ≤ 4294967295) (hc0 : 0 ≤ cnt) (bb1 : 0 ≤ bitI f 1 ∧ bitI f 1 ≤ 1) (bb4 : 0 ≤ bitI f 4 ∧ bitI f 4 ≤ 1) (hc1 : cnt ≤ 4294967295) (hl0 : 0 ≤ left) (hen : bd ≤ len) (hw0 : 0 ≤ wd) (hw1 : wd ≤ 16) (hs0 : -1 ≤ sa) (hs1 : sa ≤ 4) (hsw : 0 ≤ sa → sa + 4 ≤ wd) (ha0 : -2147483648 ≤ a) (ha1 : a ≤ 4611686020574871552)
    (hM : cnt ≤ left → (1 ≤ cnt → (hs = true ∨ 0 ≤ sa) ∧ (b = true ∨ 0 ≤ fa)) → (2 ≤ cnt → (hs = true ∨ 0 ≤ sa) ∧ (hf = true ∨ 0 ≤ fa)) → MFacts B bd en sz fl hs hf base next left cnt a ((bd : Int) + 4 + (4 + 4 * bitI f 1 + 4 * bitI f 4)) wd sa fa sz x hs b)
    (hA : MAt w wA #[.int .u8 t0, .int .u8 t1, .int .u8 t2, .int .u8 t3, .int .i64 st, .int .i64 bd, .int .i64 en] #[.int .u32 sz, .int .u32 fl, .bool hs, .bool hf] #[.bool false, .bool false, .int .i64 0, .int .i64 a, .int .i64 0, .int .i64 0, .int .i64 wd, .int .i64 sa, .int .i64 fa, .int .u32 sz, .int .u32 x, .bool hs, .bool b]) :
    Code.wp Tryf.prog ((Tryf.f24.body.bind (fromReg 28)).getD .skip) (bodyPost Tryf.prog Tryf.f24 fun e w' => MPost (MFacts B bd en sz fl hs hf base next left) e ∧ Below w.heap.size w w') ⟨#[.slice (some ⟨F, 0, none⟩) len cap, .int .i64 far, .int .u64 left, u3, u4, u5, u6, u7, u8, u9, .pointer (some ⟨w.heap.size, 0, none⟩), .pointer (some ⟨w.heap.size + 1, 0, none⟩), u12, u13, .pointer (some ⟨w.heap.size + 1 + 1, 0, none⟩), .pointer (some ⟨w.heap.size + 1 + 1 + 1, 0, none⟩), u16, u17, u18, .int .i64 (4 + 4 * bitI f 1 + 4 * bitI f 4), .int .u32 cnt, u21, u22, u23, u24, u25, u26, u27, u28, u29, u30, u31, u32, u33, u34, u35, u36, u37, u38, u39, u40, u41, u42, u43, u44, u45, u46, u47, u48, u49, u50, u51, u52, u53, u54, u55, u56, u57, u58, u59, u60, u61, u62, u63, u64, u65, u66, u67, u68, u69, u70, u71, u72, u73, u74, u75, u76, u77, u78, u79, u80, u81, u82, u83, u84, u85, u86, u87, u88, u89, u90, u91, u92, u93, u94, u95, u96, u97, u98, u99, u100, u101, u102, u103, u104, u105, u106, u107, u108, u109, u110, u111, u112, u113, u114, u115, u116, u117, u118, u119, u120, u121, u122, u123, u124, u125, u126, u127, u128, u129, u130, u131, u132, u133, u134, u135, u136, u137, u138, u139, u140, u141, u142, u143, u144, u145, u146, u147, u148, u149, u150, u151, u152, u153, u154, u155, u156, u157, u158, u159, u160, u161, u162, u163, u164, u165, u166, u167, u168, u169, u170, u171, u172, u173, u174, u175, u176, u177, u178, u179, u180, u181, u182, u183, u184, u185, u186, u187, u188, u189, u190, u191, u192, u193, u194, u195, u196, u197, u198, u199, u200, u201, u202, u203, u204, u205, u206, u207, u208, u209, u210, u211, u212, u213, u214, u215, u216, u217, u218, u219, u220], []⟩ wA := by
  have HM : Hid (cnt ≤ left → (1 ≤ cnt → (hs = true ∨ 0 ≤ sa) ∧ (b = true ∨ 0 ≤ fa)) → (2 ≤ cnt → (hs = true ∨ 0 ≤ sa) ∧ (hf = true ∨ 0 ≤ fa)) → MFacts B bd en sz fl hs hf base next left cnt a ((bd : Int) + 4 + (4 + 4 * bitI f 1 + 4 * bitI f 4)) wd sa fa sz x hs b) := hM
  have HA : Hid (MAt w wA #[.int .u8 t0, .int .u8 t1, .int .u8 t2, .int .u8 t3, .int .i64 st, .int .i64 bd, .int .i64 en] #[.int .u32 sz, .int .u32 fl, .bool hs, .bool hf] #[.bool false, .bool false, .int .i64 0, .int .i64 a, .int .i64 0, .int .i64 0, .int .i64 wd, .int .i64 sa, .int .i64 fa, .int .u32 sz, .int .u32 x, .bool hs, .bool b]) := hA
  have HA1 : Hid (MAt w (((wA.setCell ⟨w.heap.size + 1 + 1 + 1, 1, none⟩ (.bool true)).setCell ⟨w.heap.size + 1 + 1 + 1, 2, none⟩ (.int .i64 cnt)).setCell ⟨w.heap.size + 1 + 1 + 1, 4, none⟩ (.int .i64 ((bd : Int) + 4 + (4 + 4 * bitI f 1 + 4 * bitI f 4)))) #[.int .u8 t0, .int .u8 t1, .int .u8 t2, .int .u8 t3, .int .i64 st, .int .i64 bd, .int .i64 en] #[.int .u32 sz, .int .u32 fl, .bool hs, .bool hf] #[.bool false, .bool true, .int .i64 cnt, .int .i64 a, .int .i64 ((bd : Int) + 4 + (4 + 4 * bitI f 1 + 4 * bitI f 4)), .int .i64 0, .int .i64 wd, .int .i64 sa, .int .i64 fa, .int .u32 sz, .int .u32 x, .bool hs, .bool b]) := ((hA.put 1 (.bool true)).put 2 (.int .i64 cnt)).put 4 (.int .i64 ((bd : Int) + 4 + (4 + 4 * bitI f 1 + 4 * bitI f 4)))
  have HSW : Hid (0 ≤ sa → sa + 4 ≤ wd) := hsw
  have HR : Hid (Row w F len B) := hR
  have HB : Hid (Byte B) := hB
  clear hM hR hB hsw hA
  conv => arg 2; whnf
  have mC : ∀ i, wA.cell? ⟨w.heap.size + 1 + 1 + 1, i, none⟩ = (#[.bool false, .bool false, .int .i64 0, .int .i64 a, .int .i64 0, .int .i64 0, .int .i64 wd, .int .i64 sa, .int .i64 fa, .int .u32 sz, .int .u32 x, .bool hs, .bool b] : Array Value)[i]? := by intro i; simp [World.cell?, HA.out.mm]
  have mF : ∀ i, wA.frozen? ⟨w.heap.size + 1 + 1 + 1, i, none⟩ = false := by intro i; simp [World.frozen?, HA.out.mm]
  have dC : ∀ i, wA.cell? ⟨w.heap.size + 1, i, none⟩ = (#[.int .u32 sz, .int .u32 fl, .bool hs, .bool hf] : Array Value)[i]? := by intro i; simp [World.cell?, HA.out.dd]
  have aC : ∀ i, wA.cell? ⟨w.heap.size, i, none⟩ = (#[.int .u8 t0, .int .u8 t1, .int .u8 t2, .int .u8 t3, .int .i64 st, .int .i64 bd, .int .i64 en] : Array Value)[i]? := by intro i; simp [World.cell?, HA.out.aa]
  have zC : ∀ i, wA.cell? ⟨w.heap.size + 1 + 1, i, none⟩ = (#[.bool false, .bool false, .int .i64 0, .int .i64 0, .int .i64 0, .int .i64 0, .int .i64 0, .int .i64 0, .int .i64 0, .int .u32 0, .int .u32 0, .bool false, .bool false] : Array Value)[i]? := by intro i; simp [World.cell?, HA.out.zz]
  have zF : ∀ i, wA.frozen? ⟨w.heap.size + 1 + 1, i, none⟩ = false := by intro i; simp [World.frozen?, HA.out.zz]
  by_cases hcl : cnt ≤ left
  case neg =>
    go_wp2
    exact bodyPost_ret (v := mV false false 0 a 0 0 wd sa fa sz x hs b) (by simp [results, Tryf.results24, go_sem, zC]) rfl ⟨.no, (((((((((((((HA.out.below.setCell (by simp; omega) _).setCell (by simp; omega) _).setCell (by simp; omega) _).setCell (by simp; omega) _).setCell (by simp; omega) _).setCell (by simp; omega) _).setCell (by simp; omega) _).setCell (by simp; omega) _).setCell (by simp; omega) _).setCell (by simp; omega) _).setCell (by simp; omega) _).setCell (by simp; omega) _).setCell (by simp; omega) _)⟩
  have HCL : Hid (cnt ≤ left) := hcl
  go_upto_region 33 with fail
  clear HA mC mF dC aC zC zF
  generalize ((wA.setCell ⟨w.heap.size + 1 + 1 + 1, 1, none⟩ (.bool true)).setCell ⟨w.heap.size + 1 + 1 + 1, 2, none⟩ (.int .i64 cnt)).setCell ⟨w.heap.size + 1 + 1 + 1, 4, none⟩ (.int .i64 ((bd : Int) + 4 + (4 + 4 * bitI f 1 + 4 * bitI f 4))) = w1 at HA1 ⊢
  have mC : ∀ i, w1.cell? ⟨w.heap.size + 1 + 1 + 1, i, none⟩ = (#[.bool false, .bool true, .int .i64 cnt, .int .i64 a, .int .i64 ((bd : Int) + 4 + (4 + 4 * bitI f 1 + 4 * bitI f 4)), .int .i64 0, .int .i64 wd, .int .i64 sa, .int .i64 fa, .int .u32 sz, .int .u32 x, .bool hs, .bool b] : Array Value)[i]? := by intro i; simp [World.cell?, HA1.out.mm]
  have mF : ∀ i, w1.frozen? ⟨w.heap.size + 1 + 1 + 1, i, none⟩ = false := by intro i; simp [World.frozen?, HA1.out.mm]
  have dC : ∀ i, w1.cell? ⟨w.heap.size + 1, i, none⟩ = (#[.int .u32 sz, .int .u32 fl, .bool hs, .bool hf] : Array Value)[i]? := by intro i; simp [World.cell?, HA1.out.dd]
  have aC : ∀ i, w1.cell? ⟨w.heap.size, i, none⟩ = (#[.int .u8 t0, .int .u8 t1, .int .u8 t2, .int .u8 t3, .int .i64 st, .int .i64 bd, .int .i64 en] : Array Value)[i]? := by intro i; simp [World.cell?, HA1.out.aa]
  have zC : ∀ i, w1.cell? ⟨w.heap.size + 1 + 1, i, none⟩ = (#[.bool false, .bool false, .int .i64 0, .int .i64 0, .int .i64 0, .int .i64 0, .int .i64 0, .int .i64 0, .int .i64 0, .int .u32 0, .int .u32 0, .bool false, .bool false] : Array Value)[i]? := by intro i; simp [World.cell?, HA1.out.zz]
  have zF : ∀ i, w1.frozen? ⟨w.heap.size + 1 + 1, i, none⟩ = false := by intro i; simp [World.frozen?, HA1.out.zz]
  go_cut [22] (fun s wx => (∃ sd : Bool, s = .bool sd ∧ Hid (sd = true → hs = true ∨ 0 ≤ sa)) ∧ wx = w1)
  case first =>
    cases hs
    · by_cases hsa : 0 ≤ sa
      · have hd1 : decide (0 ≤ sa) = true := decide_eq_true hsa
        go_wp2
        go_meet
        exact ⟨⟨true, by simp, fun _ => .inr hsa⟩, rfl⟩
      · have hd1 : decide (0 ≤ sa) = false := decide_eq_false hsa
        go_wp2
        go_meet
        exact ⟨⟨false, by simp, fun h => by cases h⟩, rfl⟩
    · go_wp2
      go_meet
      exact ⟨⟨true, rfl, fun _ => .inl rfl⟩, rfl⟩
  case rest =>
    obtain ⟨⟨sd, rfl, HSD⟩, hwc⟩ := hcut
    subst hwc
    rename_i KB hKB
    refine hKB _ _ ?_
    exact model_34 F len cap B far left t0 t1 t2 t3 st sz fl bd en hs hf base next w _ cnt a ((bd : Int) + 4 + (4 + 4 * bitI f 1 + 4 * bitI f 4)) wd sa fa x b sd _ _ _ _ _ _ _ _ _ _ _ _ _ _ _ _ _ _ _ _ _ _ _ _ _ _ _ _ _ _ _ _ _ _ _ _ _ _ _ _ _ _ _ _ _ _ _ _ _ _ _ _ _ _ _ _ _ _ _ _ _ _ _ _ _ _ _ _ _ _ _ _ _ _ _ _ _ _ _ _ _ _ _ _ _ _ _ _ _ _ _ _ _ _ _ _ _ _ _ _ _ _ _ _ _ _ _ _ _ _ _ _ _ _ _ _ _ _ _ _ _ _ _ _ _ _ _ _ _ _ _ _ _ _ _ _ _ _ _ _ _ _ _ _ _ _ _ _ _ _ _ _ _ _ _ _ _ _ _ _ _ _ _ _ _ _ _ _ _ _ _ _ _ _ _ _ _ _ _ _ _ _ _ _ _ _ _ _ _ _ _ _ _ _ _ _ _ _ _ _ _ _ _ _ _ _ _ _ _ _ _ _ _ _ HR.out HB.out h2 h3 hl1 hsz0 hsz1 hc0 (by omega) hw0 hw1 hs0 hs1 HSW.out ha0 ha1 (fun p1 p2 => HM.out HCL.out (fun h => ⟨HSD.out (p1 h).1, (p1 h).2⟩) (fun h => ⟨HSD.out (p2 h).1, (p2 h).2⟩)) HA1.out

set_option maxRecDepth 1000000 in
set_option maxHeartbeats 4000000 in
theorem model_25 (F len cap : Nat) (B : Nat → Int) (far left t0 t1 t2 t3 st sz fl : Int) (bd en : Nat) (hs hf : Bool) (base next : Int) (w wA : World) (f cnt a wd sa fa x : Int) (b : Bool) (qa : Option Addr) (qc : Nat) (u3 u4 u5 u6 u7 u8 u9 u12 u13 u16 u21 u22 u23 u24 u25 u26 u27 u28 u29 u30 u31 u32 u33 u34 u35 u36 u37 u38 u39 u40 u41 u42 u43 u44 u45 u46 u47 u48 u49 u50 u51 u52 u53 u54 u55 u56 u57 u58 u59 u60 u61 u62 u63 u64 u65 u66 u67 u68 u69 u70 u71 u72 u73 u74 u75 u76 u77 u78 u79 u80 u81 u82 u83 u84 u85 u86 u87 u88 u89 u90 u91 u92 u93 u94 u95 u96 u97 u98 u99 u100 u101 u102 u103 u104 u105 u106 u107 u108 u109 u110 u111 u112 u113 u114 u115 u116 u117 u118 u119 u120 u121 u122 u123 u124 u125 u126 u127 u128 u129 u130 u131 u132 u133 u134 u135 u136 u137 u138 u139 u140 u141 u142 u143 u144 u145 u146 u147 u148 u149 u150 u151 u152 u153 u154 u155 u156 u157 u158 u159 u160 u161 u162 u163 u164 u165 u166 u167 u168 u169 u170 u171 u172 u173 u174 u175 u176 u177 u178 u179 u180 u181 u182 u183 u184 u185 u186 u187 u188 u189 u190 u191 u192 u193 u194 u195 u196 u197 u198 u199 u200 u201 u202 u203 u204 u205 u206 u207 u208 u209 u210 u211 u212 u213 u214 u215 u216 u217 u218 u219 u220 : Value)
    (hR : Row w F len B) (hB : Byte B) (h2 : en ≤ len) (h3 : len ≤ 1048576) (hl1 : left ≤ 65536) (hsz0 : 0 ≤ sz) (hsz1 : sz ≤ 4294967295) (hc0 : 0 ≤ cnt) (bb1 : 0 ≤ bitI f 1 ∧ bitI f 1 ≤ 1) (bb4 : 0 ≤ bitI f 4 ∧ bitI f 4 ≤ 1) (hc1 : cnt ≤ 4294967295) (hl0 : 0 ≤ left) (h1 : bd + 4 ≤ en) (hq : 8 + 4 * bitI f 1 + 4 * bitI f 4 ≤ (en : Int) - bd) (hw0 : 0 ≤ wd) (hw1 : wd ≤ 16) (hs0 : -1 ≤ sa) (hs1 : sa ≤ 4) (hsw : 0 ≤ sa → sa + 4 ≤ wd) (ha0 : -2147483648 ≤ a) (ha1 : a ≤ 4611686020574871552)
    (hM : cnt * wd ≤ en - ((bd : Int) + 4 + (4 + 4 * bitI f 1 + 4 * bitI f 4)) → cnt ≤ left → (1 ≤ cnt → (hs = true ∨ 0 ≤ sa) ∧ (b = true ∨ 0 ≤ fa)) → (2 ≤ cnt → (hs = true ∨ 0 ≤ sa) ∧ (hf = true ∨ 0 ≤ fa)) → MFacts B bd en sz fl hs hf base next left cnt a ((bd : Int) + 4 + (4 + 4 * bitI f 1 + 4 * bitI f 4)) wd sa fa sz x hs b)
    (hA : MAt w wA #[.int .u8 t0, .int .u8 t1, .int .u8 t2, .int .u8 t3, .int .i64 st, .int .i64 bd, .int .i64 en] #[.int .u32 sz, .int .u32 fl, .bool hs, .bool hf] #[.bool false, .bool false, .int .i64 0, .int .i64 a, .int .i64 0, .int .i64 0, .int .i64 wd, .int .i64 sa, .int .i64 fa, .int .u32 sz, .int .u32 x, .bool hs, .bool b]) :
    Code.wp Tryf.prog ((Tryf.f24.body.bind (fromReg 25)).getD .skip) (bodyPost Tryf.prog Tryf.f24 fun e w' => MPost (MFacts B bd en sz fl hs hf base next left) e ∧ Below w.heap.size w w') ⟨#[.slice (some ⟨F, 0, none⟩) len cap, .int .i64 far, .int .u64 left, u3, u4, u5, u6, u7, u8, u9, .pointer (some ⟨w.heap.size, 0, none⟩), .pointer (some ⟨w.heap.size + 1, 0, none⟩), u12, u13, .pointer (some ⟨w.heap.size + 1 + 1, 0, none⟩), .pointer (some ⟨w.heap.size + 1 + 1 + 1, 0, none⟩), u16, .int .u32 f, .slice qa (en - bd - 4) qc, .int .i64 (4 + 4 * bitI f 1 + 4 * bitI f 4), .int .u32 cnt, u21, u22, u23, u24, u25, u26, u27, u28, u29, u30, u31, u32, u33, u34, u35, u36, u37, u38, u39, u40, u41, u42, u43, u44, u45, u46, u47, u48, u49, u50, u51, u52, u53, u54, u55, u56, u57, u58, u59, u60, u61, u62, u63, u64, u65, u66, u67, u68, u69, u70, u71, u72, u73, u74, u75, u76, u77, u78, u79, u80, u81, u82, u83, u84, u85, u86, u87, u88, u89, u90, u91, u92, u93, u94, u95, u96, u97, u98, u99, u100, u101, u102, u103, u104, u105, u106, u107, u108, u109, u110, u111, u112, u113, u114, u115, u116, u117, u118, u119, u120, u121, u122, u123, u124, u125, u126, u127, u128, u129, u130, u131, u132, u133, u134, u135, u136, u137, u138, u139, u140, u141, u142, u143, u144, u145, u146, u147, u148, u149, u150, u151, u152, u153, u154, u155, u156, u157, u158, u159, u160, u161, u162, u163, u164, u165, u166, u167, u168, u169, u170, u171, u172, u173, u174, u175, u176, u177, u178, u179, u180, u181, u182, u183, u184, u185, u186, u187, u188, u189, u190, u191, u192, u193, u194, u195, u196, u197, u198, u199, u200, u201, u202, u203, u204, u205, u206, u207, u208, u209, u210, u211, u212, u213, u214, u215, u216, u217, u218, u219, u220], []⟩ wA := by
  have HM : Hid (cnt * wd ≤ en - ((bd : Int) + 4 + (4 + 4 * bitI f 1 + 4 * bitI f 4)) → cnt ≤ left → (1 ≤ cnt → (hs = true ∨ 0 ≤ sa) ∧ (b = true ∨ 0 ≤ fa)) → (2 ≤ cnt → (hs = true ∨ 0 ≤ sa) ∧ (hf = true ∨ 0 ≤ fa)) → MFacts B bd en sz fl hs hf base next left cnt a ((bd : Int) + 4 + (4 + 4 * bitI f 1 + 4 * bitI f 4)) wd sa fa sz x hs b) := hM
  have HA : Hid (MAt w wA #[.int .u8 t0, .int .u8 t1, .int .u8 t2, .int .u8 t3, .int .i64 st, .int .i64 bd, .int .i64 en] #[.int .u32 sz, .int .u32 fl, .bool hs, .bool hf] #[.bool false, .bool false, .int .i64 0, .int .i64 a, .int .i64 0, .int .i64 0, .int .i64 wd, .int .i64 sa, .int .i64 fa, .int .u32 sz, .int .u32 x, .bool hs, .bool b]) := hA
  have HSW : Hid (0 ≤ sa → sa + 4 ≤ wd) := hsw
  have HR : Hid (Row w F len B) := hR
  have HB : Hid (Byte B) := hB
  clear hM hR hB hsw hA
  conv => arg 2; whnf
  have mC : ∀ i, wA.cell? ⟨w.heap.size + 1 + 1 + 1, i, none⟩ = (#[.bool false, .bool false, .int .i64 0, .int .i64 a, .int .i64 0, .int .i64 0, .int .i64 wd, .int .i64 sa, .int .i64 fa, .int .u32 sz, .int .u32 x, .bool hs, .bool b] : Array Value)[i]? := by intro i; simp [World.cell?, HA.out.mm]
  have mF : ∀ i, wA.frozen? ⟨w.heap.size + 1 + 1 + 1, i, none⟩ = false := by intro i; simp [World.frozen?, HA.out.mm]
  have dC : ∀ i, wA.cell? ⟨w.heap.size + 1, i, none⟩ = (#[.int .u32 sz, .int .u32 fl, .bool hs, .bool hf] : Array Value)[i]? := by intro i; simp [World.cell?, HA.out.dd]
  have aC : ∀ i, wA.cell? ⟨w.heap.size, i, none⟩ = (#[.int .u8 t0, .int .u8 t1, .int .u8 t2, .int .u8 t3, .int .i64 st, .int .i64 bd, .int .i64 en] : Array Value)[i]? := by intro i; simp [World.cell?, HA.out.aa]
  have zC : ∀ i, wA.cell? ⟨w.heap.size + 1 + 1, i, none⟩ = (#[.bool false, .bool false, .int .i64 0, .int .i64 0, .int .i64 0, .int .i64 0, .int .i64 0, .int .i64 0, .int .i64 0, .int .u32 0, .int .u32 0, .bool false, .bool false] : Array Value)[i]? := by intro i; simp [World.cell?, HA.out.zz]
  have zF : ∀ i, wA.frozen? ⟨w.heap.size + 1 + 1, i, none⟩ = false := by intro i; simp [World.frozen?, HA.out.zz]
  go_upto_region 26 with fail
  go_cut [131] (fun s wx => (∃ nf : Bool, s = .bool nf ∧ Hid (nf = false → cnt * wd ≤ en - ((bd : Int) + 4 + (4 + 4 * bitI f 1 + 4 * bitI f 4)))) ∧ wx = wA)
  case first =>
    by_cases hwd : 0 < wd
    · by_cases hft : (((en - bd - 4 : Nat) : Int) - (4 + 4 * bitI f 1 + 4 * bitI f 4)) / wd < cnt
      · go_wp2
        go_meet
        exact ⟨⟨true, by simp, fun h => by cases h⟩, rfl⟩
      · have HF : Hid (cnt * wd ≤ en - ((bd : Int) + 4 + (4 + 4 * bitI f 1 + 4 * bitI f 4))) := by
          have h5 : cnt ≤ (((en - bd - 4 : Nat) : Int) - (4 + 4 * bitI f 1 + 4 * bitI f 4)) / wd := by omega
          have h6 := (Int.le_ediv_iff_mul_le hwd).1 h5
          have h7 : ((en - bd - 4 : Nat) : Int) = (en : Int) - bd - 4 := by omega
          show _ ≤ _
          omega
        go_wp2
        go_meet
        exact ⟨⟨false, by simp, fun _ => HF.out⟩, rfl⟩
    · obtain rfl : wd = 0 := by omega
      have HF : Hid (cnt * 0 ≤ en - ((bd : Int) + 4 + (4 + 4 * bitI f 1 + 4 * bitI f 4))) := by show _ ≤ _; omega
      go_wp2
      go_meet
      exact ⟨⟨false, rfl, fun _ => HF.out⟩, rfl⟩
  case rest =>
    obtain ⟨⟨nf, rfl, HNF⟩, hwc⟩ := hcut
    subst hwc
    rename_i KA hKA KB hKB
    cases nf with
    | true =>
      go_wp2
      exact bodyPost_ret (v := mV false false 0 a 0 0 wd sa fa sz x hs b) (by simp [results, Tryf.results24, go_sem, zC]) rfl ⟨.no, (((((((((((((HA.out.below.setCell (by simp; omega) _).setCell (by simp; omega) _).setCell (by simp; omega) _).setCell (by simp; omega) _).setCell (by simp; omega) _).setCell (by simp; omega) _).setCell (by simp; omega) _).setCell (by simp; omega) _).setCell (by simp; omega) _).setCell (by simp; omega) _).setCell (by simp; omega) _).setCell (by simp; omega) _).setCell (by simp; omega) _)⟩
    | false =>
      refine hKB _ _ (wp_cond_false rfl (wp_skip (hKA _ _ ?_)))
      exact model_28 F len cap B far left t0 t1 t2 t3 st sz fl bd en hs hf base next w _ f cnt a wd sa fa x b _ _ _ _ _ _ _ _ _ _ _ _ _ _ _ _ _ _ _ _ _ _ _ _ _ _ _ _ _ _ _ _ _ _ _ _ _ _ _ _ _ _ _ _ _ _ _ _ _ _ _ _ _ _ _ _ _ _ _ _ _ _ _ _ _ _ _ _ _ _ _ _ _ _ _ _ _ _ _ _ _ _ _ _ _ _ _ _ _ _ _ _ _ _ _ _ _ _ _ _ _ _ _ _ _ _ _ _ _ _ _ _ _ _ _ _ _ _ _ _ _ _ _ _ _ _ _ _ _ _ _ _ _ _ _ _ _ _ _ _ _ _ _ _ _ _ _ _ _ _ _ _ _ _ _ _ _ _ _ _ _ _ _ _ _ _ _ _ _ _ _ _ _ _ _ _ _ _ _ _ _ _ _ _ _ _ _ _ _ _ _ _ _ _ _ _ _ _ _ _ _ _ _ _ _ _ _ _ _ _ _ _ HR.out HB.out h2 h3 hl1 hsz0 hsz1 hc0 bb1 bb4 hc1 hl0 (by omega) hw0 hw1 hs0 hs1 HSW.out ha0 ha1 (HM.out (HNF.out rfl)) HA.out
end Go.Proofs.Qxb6613648aFmt

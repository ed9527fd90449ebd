/-
  readTrun, its last loop: where the run ends.
-/
import Derived.Test.Qxb6613648aFmtFields
import Derived.Test.Qxb6613648aFmtMHead
import Derived.Deep.RegionWith
namespace Go.Proofs.Qxb6613648aFmt
open Go.RowKit
set_option linter.unusedVariables false
attribute [local go_sem] setCell_drewN alloc_drewN

/-- Where sample j lies: back to back, held to far. -/
def offAt (far a : Int) (sz : Nat → Int) : Nat → Int
  | 0 => a
  | j + 1 => min (offAt far a sz j + sz j) far

theorem offAt_bd {far a : Int} {sz : Nat → Int} (h : ∀ j, 0 ≤ sz j ∧ sz j ≤ 4294967295) (ha0 : -2147483648 ≤ a) (ha1 : a ≤ 4611686020574871552) (hf0 : 0 ≤ far) (hf1 : far ≤ 4611686018427387904) (j : Nat) :
    -2147483648 ≤ offAt far a sz j ∧ offAt far a sz j ≤ 4611686020574871552 := by
  induction j with
  | zero => exact ⟨ha0, ha1⟩
  | succ j ih =>
    have := h j
    show -2147483648 ≤ min _ _ ∧ min _ _ ≤ _
    omega

theorem minF (far y : Int) : (if far < y then far else y) = min y far := by split <;> omega

theorem lt_of_cell {w : World} {b i : Nat} {v : Value} (h : w.cell? ⟨b, i, none⟩ = some v) : b < w.heap.size := by
  rcases Nat.lt_or_ge b w.heap.size with h1 | h1
  · exact h1
  · simp [World.cell?, Array.getElem?_eq_none h1] at h

set_option maxRecDepth 1000000 in
set_option maxHeartbeats 4000000 in
theorem rt_47_plain (fb mb db fi Q o lE cE cn e0 : Nat) (pE : Addr) (B : Nat → Int) (a far sz wd sa : Int) (post : Ending → World → Prop) (wA : World) (u1 u2 u3 u4 u5 u6 u7 u8 u10 u11 u12 u13 u14 u15 u16 u17 u18 u19 u23 u25 u26 u29 u30 u31 u32 u33 u34 u35 u36 u37 u38 u39 u40 u41 u42 u43 u44 u45 u46 u47 u48 u49 u50 u51 u52 u53 u54 u55 u56 u57 u58 u59 u60 u61 u62 u63 u64 u65 u66 u67 u68 u69 u70 u71 u72 u73 u74 u75 u76 u77 u78 u79 u80 u81 u82 u83 u84 u85 u86 u87 u88 u89 u90 u91 u92 u93 u94 u95 u96 u97 u98 u99 u100 u101 u102 u103 u104 u105 u106 u107 u108 u109 u110 u111 u112 u113 u114 u115 u116 u117 u118 u119 u120 u121 u122 u123 u124 u125 u126 u127 u128 u129 u130 u131 u132 u133 u134 u135 u136 u137 u138 u139 u140 u141 u142 u143 u144 u145 u146 u147 u148 u149 u150 u151 u152 u153 u154 u155 u156 u157 u158 u159 u160 u161 u162 u163 u164 u165 u166 u167 u168 u169 u170 u171 u172 u173 u174 u175 u176 u177 u178 u179 u180 u181 u182 u183 u184 u185 u186 u187 u188 u189 u190 u191 u192 u193 u194 u195 u196 u197 u198 u199 u200 u201 u202 u203 u204 u205 u206 u207 u208 u209 u210 u211 u212 u213 u214 u215 u216 u217 u218 u219 u220 u221 u222 u223 u224 u225 u226 u227 u228 u229 u230 u231 u232 u233 u234 u235 u236 u237 u238 u239 : Value)
    (hfb : wA.cell? ⟨fb, 0, none⟩ = some (.pointer (some ⟨mb, 0, none⟩))) (hmb : wA.cell? ⟨mb, 2, none⟩ = some (.int .i64 far)) (hd : wA.cell? ⟨db, 0, none⟩ = some (.int .u32 sz)) (hfi : wA.cell? ⟨fi, 0, none⟩ = some (.int .u32 sz))
    (hB : Byte B) (hcn : cn ≤ 65536) (hl : lE ≤ 1048576) (hsz0 : 0 ≤ sz) (hsz1 : sz ≤ 4294967295) (ha0 : -2147483648 ≤ a) (ha1 : a ≤ 4611686020574871552) (hf0 : 0 ≤ far) (hf1 : far ≤ 4611686018427387904)
    (hpost : ∀ w', Below wA.heap.size wA w' → post (.returned (.tuple #[.int .i64 (offAt far a (szOf B e0 wd sa sz) cn), .nilIface])) w') (hsa : ¬ 0 ≤ sa) :
    Code.wp Tryf.prog ((Tryf.f50.body.bind (fromReg 47)).getD .skip) (bodyPost Tryf.prog Tryf.f50 post) ⟨#[.pointer (some ⟨fb, 0, none⟩), u1, u2, u3, u4, u5, u6, u7, u8, .pointer (some ⟨db, 0, none⟩), u10, u11, u12, u13, u14, u15, u16, u17, u18, u19, .int .i64 a, .pointer (some ⟨fi, 0, none⟩), .int .i64 sa, u23, .int .i64 wd, u25, u26, .slice (some pE) lE cE, .int .i64 cn, u29, u30, u31, u32, u33, u34, u35, u36, u37, u38, u39, u40, u41, u42, u43, u44, u45, u46, u47, u48, u49, u50, u51, u52, u53, u54, u55, u56, u57, u58, u59, u60, u61, u62, u63, u64, u65, u66, u67, u68, u69, u70, u71, u72, u73, u74, u75, u76, u77, u78, u79, u80, u81, u82, u83, u84, u85, u86, u87, u88, u89, u90, u91, u92, u93, u94, u95, u96, u97, u98, u99, u100, u101, u102, u103, u104, u105, u106, u107, u108, u109, u110, u111, u112, u113, u114, u115, u116, u117, u118, u119, u120, u121, u122, u123, u124, u125, u126, u127, u128, u129, u130, u131, u132, u133, u134, u135, u136, u137, u138, u139, u140, u141, u142, u143, u144, u145, u146, u147, u148, u149, u150, u151, u152, u153, u154, u155, u156, u157, u158, u159, u160, u161, u162, u163, u164, u165, u166, u167, u168, u169, u170, u171, u172, u173, u174, u175, u176, u177, u178, u179, u180, u181, u182, u183, u184, u185, u186, u187, u188, u189, u190, u191, u192, u193, u194, u195, u196, u197, u198, u199, u200, u201, u202, u203, u204, u205, u206, u207, u208, u209, u210, u211, u212, u213, u214, u215, u216, u217, u218, u219, u220, u221, u222, u223, u224, u225, u226, u227, u228, u229, u230, u231, u232, u233, u234, u235, u236, u237, u238, u239], []⟩ wA := by
  have HP : Hid (∀ w', Below wA.heap.size wA w' → post (.returned (.tuple #[.int .i64 (offAt far a (szOf B e0 wd sa sz) cn), .nilIface])) w') := hpost
  have HBd : Hid (∀ j, -2147483648 ≤ offAt far a (szOf B e0 wd sa sz) j ∧ offAt far a (szOf B e0 wd sa sz) j ≤ 4611686020574871552) := fun j => offAt_bd (fun j => szOf_bd hB _ _ _ _ hsz0 hsz1 j) ha0 ha1 hf0 hf1 j
  have HSz : Hid (∀ j, szOf B e0 wd sa sz j = sz) := fun j => by unfold szOf; rw [if_neg hsa]
  have hsd : decide (0 ≤ sa) = false := decide_eq_false hsa
  clear hpost hB
  conv => arg 2; whnf
  go_wp2_with fail
  go_loop [20, 34, 35, 204] (fun s _ _ i => ∃ k : Nat, k ≤ cn ∧ i = .int .i64 k ∧ s = .int .i64 (offAt far a (szOf B e0 wd sa sz) k)) (fun _ _ _ i => cn - (intOf i).toNat)
  case atStart => exact ⟨0, Nat.zero_le _, rfl, rfl⟩
  case round =>
    obtain ⟨k, hk, rfl, rfl⟩ := hrel
    by_cases hlt : k < cn
    · have hbk := HBd.out k
      have HN : Hid (offAt far a (szOf B e0 wd sa sz) (k + 1) = min (offAt far a (szOf B e0 wd sa sz) k + sz) far) := by show min _ _ = _; rw [HSz.out]
      generalize offAt far a (szOf B e0 wd sa sz) k = x at hbk HN ⊢
      by_cases hk0 : k = 0
      · have hk0' : ((k : Int) == 0) = true := by simp [hk0]
        go_wp2
        go_round
        case rel => exact ⟨k + 1, by omega, by go_num, by rw [HN.out, minF]⟩
        case measure => simp [intOf]; omega
      · have hk0' : ((k : Int) == 0) = false := by simp [hk0]
        go_wp2
        go_round
        case rel => exact ⟨k + 1, by omega, by go_num, by rw [HN.out, minF]⟩
        case measure => simp [intOf]; omega
    · have HE : Hid (k = cn) := by show _ = _; omega
      go_wp2
      have := HP.out _ (Below.refl _ _)
      rw [← HE.out] at this
      exact this

set_option maxRecDepth 1000000 in
set_option maxHeartbeats 4000000 in
theorem rt_47_read (fb mb db fi Q o lE cE cn e0 : Nat) (pE : Addr) (B : Nat → Int) (a far sz wd sa : Int) (post : Ending → World → Prop) (wA : World) (u1 u2 u3 u4 u5 u6 u7 u8 u10 u11 u12 u13 u14 u15 u16 u17 u18 u19 u23 u25 u26 u29 u30 u31 u32 u33 u34 u35 u36 u37 u38 u39 u40 u41 u42 u43 u44 u45 u46 u47 u48 u49 u50 u51 u52 u53 u54 u55 u56 u57 u58 u59 u60 u61 u62 u63 u64 u65 u66 u67 u68 u69 u70 u71 u72 u73 u74 u75 u76 u77 u78 u79 u80 u81 u82 u83 u84 u85 u86 u87 u88 u89 u90 u91 u92 u93 u94 u95 u96 u97 u98 u99 u100 u101 u102 u103 u104 u105 u106 u107 u108 u109 u110 u111 u112 u113 u114 u115 u116 u117 u118 u119 u120 u121 u122 u123 u124 u125 u126 u127 u128 u129 u130 u131 u132 u133 u134 u135 u136 u137 u138 u139 u140 u141 u142 u143 u144 u145 u146 u147 u148 u149 u150 u151 u152 u153 u154 u155 u156 u157 u158 u159 u160 u161 u162 u163 u164 u165 u166 u167 u168 u169 u170 u171 u172 u173 u174 u175 u176 u177 u178 u179 u180 u181 u182 u183 u184 u185 u186 u187 u188 u189 u190 u191 u192 u193 u194 u195 u196 u197 u198 u199 u200 u201 u202 u203 u204 u205 u206 u207 u208 u209 u210 u211 u212 u213 u214 u215 u216 u217 u218 u219 u220 u221 u222 u223 u224 u225 u226 u227 u228 u229 u230 u231 u232 u233 u234 u235 u236 u237 u238 u239 : Value)
    (hfb : wA.cell? ⟨fb, 0, none⟩ = some (.pointer (some ⟨mb, 0, none⟩))) (hmb : wA.cell? ⟨mb, 2, none⟩ = some (.int .i64 far)) (hd : wA.cell? ⟨db, 0, none⟩ = some (.int .u32 sz)) (hfi : wA.cell? ⟨fi, 0, none⟩ = some (.int .u32 sz))
    (hB : Byte B) (hcn : cn ≤ 65536) (hl : lE ≤ 1048576) (hsz0 : 0 ≤ sz) (hsz1 : sz ≤ 4294967295) (ha0 : -2147483648 ≤ a) (ha1 : a ≤ 4611686020574871552) (hf0 : 0 ≤ far) (hf1 : far ≤ 4611686018427387904)
    (hpost : ∀ w', Below wA.heap.size wA w' → post (.returned (.tuple #[.int .i64 (offAt far a (szOf B e0 wd sa sz) cn), .nilIface])) w') (hsa : 0 ≤ sa) (hsa1 : sa ≤ 16) (hw0 : 0 ≤ wd) (hw1 : wd ≤ 16) (hcE : cE = lE)
    (hpE : 0 < cn → pE = ⟨Q, o, none⟩) (hE : 0 < cn → Bytes wA Q o lE (fun i => B (e0 + i))) (hin : ∀ j : Nat, j < cn → (j : Int) * wd + sa + 4 ≤ lE) :
    Code.wp Tryf.prog ((Tryf.f50.body.bind (fromReg 47)).getD .skip) (bodyPost Tryf.prog Tryf.f50 post) ⟨#[.pointer (some ⟨fb, 0, none⟩), u1, u2, u3, u4, u5, u6, u7, u8, .pointer (some ⟨db, 0, none⟩), u10, u11, u12, u13, u14, u15, u16, u17, u18, u19, .int .i64 a, .pointer (some ⟨fi, 0, none⟩), .int .i64 sa, u23, .int .i64 wd, u25, u26, .slice (some pE) lE cE, .int .i64 cn, u29, u30, u31, u32, u33, u34, u35, u36, u37, u38, u39, u40, u41, u42, u43, u44, u45, u46, u47, u48, u49, u50, u51, u52, u53, u54, u55, u56, u57, u58, u59, u60, u61, u62, u63, u64, u65, u66, u67, u68, u69, u70, u71, u72, u73, u74, u75, u76, u77, u78, u79, u80, u81, u82, u83, u84, u85, u86, u87, u88, u89, u90, u91, u92, u93, u94, u95, u96, u97, u98, u99, u100, u101, u102, u103, u104, u105, u106, u107, u108, u109, u110, u111, u112, u113, u114, u115, u116, u117, u118, u119, u120, u121, u122, u123, u124, u125, u126, u127, u128, u129, u130, u131, u132, u133, u134, u135, u136, u137, u138, u139, u140, u141, u142, u143, u144, u145, u146, u147, u148, u149, u150, u151, u152, u153, u154, u155, u156, u157, u158, u159, u160, u161, u162, u163, u164, u165, u166, u167, u168, u169, u170, u171, u172, u173, u174, u175, u176, u177, u178, u179, u180, u181, u182, u183, u184, u185, u186, u187, u188, u189, u190, u191, u192, u193, u194, u195, u196, u197, u198, u199, u200, u201, u202, u203, u204, u205, u206, u207, u208, u209, u210, u211, u212, u213, u214, u215, u216, u217, u218, u219, u220, u221, u222, u223, u224, u225, u226, u227, u228, u229, u230, u231, u232, u233, u234, u235, u236, u237, u238, u239], []⟩ wA := by
  have HP : Hid (∀ w', Below wA.heap.size wA w' → post (.returned (.tuple #[.int .i64 (offAt far a (szOf B e0 wd sa sz) cn), .nilIface])) w') := hpost
  have HBd : Hid (∀ j, -2147483648 ≤ offAt far a (szOf B e0 wd sa sz) j ∧ offAt far a (szOf B e0 wd sa sz) j ≤ 4611686020574871552) := fun j => offAt_bd (fun j => szOf_bd hB _ _ _ _ hsz0 hsz1 j) ha0 ha1 hf0 hf1 j
  have HSb : Hid (∀ j, 0 ≤ szOf B e0 wd sa sz j ∧ szOf B e0 wd sa sz j ≤ 4294967295) := fun j => szOf_bd hB _ _ _ _ hsz0 hsz1 j
  have HSz : Hid (∀ j, szOf B e0 wd sa sz j = be B ((e0 : Int) + j * wd + sa).toNat) := fun j => by unfold szOf; rw [if_pos hsa]
  have HE : Hid (0 < cn → Bytes wA Q o lE (fun i => B (e0 + i))) := hE
  have HpE : Hid (0 < cn → pE = ⟨Q, o, none⟩) := hpE
  have HI : Hid (∀ j : Nat, j < cn → (j : Int) * wd + sa + 4 ≤ lE) := hin
  have HBy : Hid (Byte B) := hB
  have hsd : decide (0 ≤ sa) = true := decide_eq_true hsa
  have Hc : Hid (wA.cell? ⟨fb, 0, none⟩ = some (.pointer (some ⟨mb, 0, none⟩)) ∧ wA.cell? ⟨mb, 2, none⟩ = some (.int .i64 far) ∧ wA.cell? ⟨db, 0, none⟩ = some (.int .u32 sz)) := ⟨hfb, hmb, hd⟩
  subst hcE
  clear hpost hB hE hpE hin hfb hmb hd hfi
  conv => arg 2; whnf
  go_wp2_with fail
  go_loopw [20, 34, 35, 204] (fun s _ _ i wr => ∃ k : Nat, k ≤ cn ∧ i = .int .i64 k ∧ s = .int .i64 (offAt far a (szOf B e0 wd sa sz) k) ∧ Hid (Below wA.heap.size wA wr)) (fun _ _ _ i _ => cn - (intOf i).toNat)
  case atStart => exact ⟨0, Nat.zero_le _, rfl, rfl, Below.refl _ _⟩
  case round =>
    obtain ⟨k, hk, rfl, rfl, HB⟩ := hrel
    by_cases hlt : k < cn
    · have hbk := HBd.out k
      have hbs := HSb.out k
      obtain rfl := HpE.out (by omega)
      have hi := HI.out k hlt
      have hkw : 0 ≤ (k : Int) * wd := Int.mul_nonneg (by omega) hw0
      obtain ⟨z, hz⟩ : ∃ z : Nat, (z : Int) = (k : Int) * wd + sa := ⟨((k : Int) * wd + sa).toNat, by omega⟩
      have hzl : z + 4 ≤ cE := by omega
      have HX : Hid (szOf B e0 wd sa sz k = be (fun i => B (e0 + z + i)) 0) := by
        show _ = _
        rw [HSz.out, show ((e0 : Int) + k * wd + sa).toNat = e0 + z by omega]
        rfl
      have HN : Hid (offAt far a (szOf B e0 wd sa sz) (k + 1) = min (offAt far a (szOf B e0 wd sa sz) k + szOf B e0 wd sa sz k) far) := rfl
      have hby : Hid (Bytes wr Q (o + z) 4 (fun i => B (e0 + z + i))) := by
        intro i hi
        have hq := HE.out (by omega) 0 (by omega)
        have := HE.out (by omega) (z + i) (by omega)
        rw [HB.out.cell (lt_of_cell hq), show o + z + i = o + (z + i) by omega, this]
        show some (Value.int .u8 (B (e0 + (z + i)))) = some (Value.int .u8 (B (e0 + z + i)))
        rw [show e0 + (z + i) = e0 + z + i by omega]
      have c1 : wr.cell? ⟨fb, 0, none⟩ = some (.pointer (some ⟨mb, 0, none⟩)) := (HB.out.cell (lt_of_cell Hc.out.1)).trans Hc.out.1
      have c2 : wr.cell? ⟨mb, 2, none⟩ = some (.int .i64 far) := (HB.out.cell (lt_of_cell Hc.out.2.1)).trans Hc.out.2.1
      have c3 : wr.cell? ⟨db, 0, none⟩ = some (.int .u32 sz) := (HB.out.cell (lt_of_cell Hc.out.2.2)).trans Hc.out.2.2
      have hkb : (k : Int) * wd ≤ 1048576 := by omega
      generalize hsk : szOf B e0 wd sa sz k = s at hbs HX HN
      generalize offAt far a (szOf B e0 wd sa sz) k = x at hbk HN ⊢
      clear hsk hi
      have hz' : IntKind.i64.wrap (IntKind.i64.wrap ((k : Int) * wd) + sa) = (z : Int) := by rw [IntKind.wrap_i64, IntKind.wrap_i64]; omega
      clear hz
      have hzlt : z < cE := by omega
      have hzne : ¬ cE = z := by omega
      have HB2 : Hid (∀ n, Below wA.heap.size wA ((wr.alloc (.cells #[] 163)).drewN n)) := fun n => below_drewN (HB.out.alloc HB.out.size _) n
      go_upto_region 52 with fail
      go_region_with (go_at_call 60; refine (u32_any Q (o + z) (cE - z) (cE - z) (fun i => B (e0 + z + i)) wr.drew ?_ ?_ hby.out ?_).mono ?_; omega; omega; exact fun i => HBy.out (e0 + z + i); rintro e w7 ⟨rfl, n7, rfl⟩; rw [← HX.out])
      all_goals
        have hws : IntKind.i64.wrap s = s := by rw [IntKind.wrap_i64]; omega
        have HB3 : Hid (Below wA.heap.size wA ((wr.alloc (.cells #[] 163)).drewN (1 + n7))) := HB2.out _
        clear c1 c2 c3 HB HB2 hby
        generalize (wr.alloc (.cells #[] 163)).drewN (1 + n7) = w8 at HB3 ⊢
        have c1 : w8.cell? ⟨fb, 0, none⟩ = some (.pointer (some ⟨mb, 0, none⟩)) := (HB3.out.cell (lt_of_cell Hc.out.1)).trans Hc.out.1
        have c2 : w8.cell? ⟨mb, 2, none⟩ = some (.int .i64 far) := (HB3.out.cell (lt_of_cell Hc.out.2.1)).trans Hc.out.2.1
        go_wp2
        go_roundw
        case rel => exact ⟨k + 1, by omega, by go_num, by rw [HN.out, minF], HB3⟩
        case measure => simp [intOf]; omega
    · have HEq : Hid (k = cn) := by show _ = _; omega
      go_wp2
      have := HP.out _ HB.out
      rw [← HEq.out] at this
      exact this
end Go.Proofs.Qxb6613648aFmt

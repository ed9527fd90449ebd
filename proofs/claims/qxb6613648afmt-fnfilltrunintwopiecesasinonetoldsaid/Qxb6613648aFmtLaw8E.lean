/-
  FnFillTrunInTwoPiecesAsInOne: what is compared.
-/
import Derived.Test.Qxb6613648aFmtLaw8S
namespace Go.Proofs.Qxb6613648aFmt
open Go.RowKit
set_option linter.unusedVariables false
set_option linter.unusedSimpArgs false
attribute [local go_sem] setCell_drewN alloc_drewN

set_option maxRecDepth 1000000 in
set_option maxHeartbeats 8000000 in
theorem l8_27 (mbk hd tl wb1 wb2 D1 D2 D3 n2 n cn : Nat) (A : Int) (O1 Z1 O2 Z2 O3 Z3 : Nat → Int) (Y1 Y2 Y3 : Nat → Bool) (post : Ending → World → Prop) (wX wA : World) (u0 u1 u2 u3 u4 u5 u6 u9 u10 u11 u12 u13 u14 u15 u16 u17 u18 u20 u21 u22 u23 u24 u36 u37 u38 u39 u40 u41 u42 u43 u44 u45 u46 u47 u48 u49 u50 u51 u52 u53 u54 u55 u56 u57 u58 u59 u60 u61 u62 u63 u64 u65 u66 u67 u68 u69 u70 u71 u72 u73 u74 u75 u76 u77 u78 u79 u80 u81 u82 u83 u84 u85 u86 u87 u88 u89 u90 u91 u92 u93 u94 u95 u96 u97 u98 u99 u100 u101 u102 u103 u104 u105 u106 u107 u108 u109 u110 u111 u112 u113 u114 u115 u116 u117 u118 u119 u120 u121 u122 u123 u124 u125 u126 u127 u128 u129 u130 u131 u132 u133 u134 u135 u136 u137 u138 u139 u140 u141 u142 u143 u144 u145 u146 u147 u148 u149 u150 u151 u152 u153 u154 u155 u156 u157 u158 u159 u160 u161 u162 u163 u164 u165 u166 u167 u168 u169 u170 u171 u172 u173 u174 u175 u176 u177 u178 u179 u180 u181 u182 u183 u184 u185 u186 u187 u188 u189 u190 u191 u192 u193 u194 u195 u196 u197 u198 u199 u200 u201 u202 u203 u204 u205 u206 u207 u208 u209 u210 u211 u212 u213 u214 u215 u216 u217 u218 u219 u220 u221 u222 u223 u224 u225 u226 u227 u228 u229 u230 u231 u232 u233 u234 u235 u236 u237 u238 u239 u240 u241 u242 u243 u244 u245 u246 u247 u248 u249 u250 u251 u252 u253 u254 u255 u256 u257 u258 u259 u260 u261 : Value)
    (h1 : SRow wA D1 hd O1 Z1 Y1) (h2 : SRow wA D2 tl O2 Z2 Y2) (h3 : SRow wA D3 (hd + tl) O3 Z3 Y3) (e1 : ∀ j, j < hd → O1 j = O3 j ∧ Z1 j = Z3 j ∧ Y1 j = Y3 j) (e2 : ∀ j, j < n2 → O2 j = O3 (hd + j) ∧ Z2 j = Z3 (hd + j) ∧ Y2 j = Y3 (hd + j))
    (m2 : wA.cell? ⟨mbk, 2, none⟩ = some (.int .i64 cn)) (b12 : wA.cell? ⟨wb1, 12, none⟩ = some (.int .i64 0)) (b13 : wA.cell? ⟨wb1, 13, none⟩ = some (.int .i64 n)) (b1 : wA.cell? ⟨wb1, 1, none⟩ = some (.int .i64 n)) (b14 : wA.cell? ⟨wb1, 14, none⟩ = some (.int .i64 A))
    (c12 : wA.cell? ⟨wb2, 12, none⟩ = some (.int .i64 0)) (c13 : wA.cell? ⟨wb2, 13, none⟩ = some (.int .i64 n)) (c1 : wA.cell? ⟨wb2, 1, none⟩ = some (.int .i64 n)) (c14 : wA.cell? ⟨wb2, 14, none⟩ = some (.int .i64 A))
    (hbl : Below wX.heap.size wX wA) (hh : hd ≤ 65536) (ht : tl ≤ 65536) (hcn : cn ≤ 65536) (hn2 : n2 ≤ tl) (hn : n = min (hd + tl) cn) (hsum : hd + n2 = n)
    (hpost : ∀ w', Below wX.heap.size wX w' → post (.returned (.bool true)) w') :
    Code.wp Tryf.prog ((Tryf.f8.body.bind (fromReg 27)).getD .skip) (bodyPost Tryf.prog Tryf.f8 post) ⟨#[u0, u1, u2, u3, u4, u5, u6, .int .i64 hd, .int .i64 tl, u9, u10, u11, u12, u13, u14, u15, u16, u17, u18, .pointer (some ⟨mbk, 0, none⟩), u20, u21, u22, u23, u24, .pointer (some ⟨wb1, 0, none⟩), .slice (some ⟨D1, 0, none⟩) hd hd, .int .i64 hd, .nilIface, .slice (some ⟨D2, 0, none⟩) tl tl, .int .i64 n2, .nilIface, .pointer (some ⟨wb2, 0, none⟩), .slice (some ⟨D3, 0, none⟩) (hd + tl) (hd + tl), .int .i64 n, .nilIface, u36, u37, u38, u39, u40, u41, u42, u43, u44, u45, u46, u47, u48, u49, u50, u51, u52, u53, u54, u55, u56, u57, u58, u59, u60, u61, u62, u63, u64, u65, u66, u67, u68, u69, u70, u71, u72, u73, u74, u75, u76, u77, u78, u79, u80, u81, u82, u83, u84, u85, u86, u87, u88, u89, u90, u91, u92, u93, u94, u95, u96, u97, u98, u99, u100, u101, u102, u103, u104, u105, u106, u107, u108, u109, u110, u111, u112, u113, u114, u115, u116, u117, u118, u119, u120, u121, u122, u123, u124, u125, u126, u127, u128, u129, u130, u131, u132, u133, u134, u135, u136, u137, u138, u139, u140, u141, u142, u143, u144, u145, u146, u147, u148, u149, u150, u151, u152, u153, u154, u155, u156, u157, u158, u159, u160, u161, u162, u163, u164, u165, u166, u167, u168, u169, u170, u171, u172, u173, u174, u175, u176, u177, u178, u179, u180, u181, u182, u183, u184, u185, u186, u187, u188, u189, u190, u191, u192, u193, u194, u195, u196, u197, u198, u199, u200, u201, u202, u203, u204, u205, u206, u207, u208, u209, u210, u211, u212, u213, u214, u215, u216, u217, u218, u219, u220, u221, u222, u223, u224, u225, u226, u227, u228, u229, u230, u231, u232, u233, u234, u235, u236, u237, u238, u239, u240, u241, u242, u243, u244, u245, u246, u247, u248, u249, u250, u251, u252, u253, u254, u255, u256, u257, u258, u259, u260, u261], []⟩ wA := by
  have HS : Hid (SRow wA D1 hd O1 Z1 Y1 ∧ SRow wA D2 tl O2 Z2 Y2 ∧ SRow wA D3 (hd + tl) O3 Z3 Y3) := ⟨h1, h2, h3⟩
  have HE : Hid ((∀ j, j < hd → O1 j = O3 j ∧ Z1 j = Z3 j ∧ Y1 j = Y3 j) ∧ (∀ j, j < n2 → O2 j = O3 (hd + j) ∧ Z2 j = Z3 (hd + j) ∧ Y2 j = Y3 (hd + j))) := ⟨e1, e2⟩
  have HP : Hid (∀ w', Below wX.heap.size wX w' → post (.returned (.bool true)) w') := hpost
  have HBl : Hid (∀ m, Below wX.heap.size wX (wA.drewN m)) := fun m => below_drewN hbl m
  have HC : Hid (wA.cell? ⟨wb1, 12, none⟩ = some (.int .i64 0) ∧ wA.cell? ⟨wb1, 13, none⟩ = some (.int .i64 n) ∧ wA.cell? ⟨wb1, 1, none⟩ = some (.int .i64 n) ∧ wA.cell? ⟨wb1, 14, none⟩ = some (.int .i64 A) ∧ wA.cell? ⟨wb2, 12, none⟩ = some (.int .i64 0) ∧ wA.cell? ⟨wb2, 13, none⟩ = some (.int .i64 n) ∧ wA.cell? ⟨wb2, 1, none⟩ = some (.int .i64 n) ∧ wA.cell? ⟨wb2, 14, none⟩ = some (.int .i64 A)) := ⟨b12, b13, b1, b14, c12, c13, c1, c14⟩
  have hmn : min ((hd : Int) + (tl : Int)) (cn : Int) = n := by omega
  have hsI : (hd : Int) + (n2 : Int) = n := by omega
  have hnb : n ≤ 131072 := by omega
  clear h1 h2 h3 e1 e2 hpost hbl b12 b13 b1 b14 c12 c13 c1 c14 hn hsum
  conv => arg 2; whnf
  go_wp2_with fail
  refine (minInt_any ((hd : Int) + tl) cn wA).mono ?_
  rintro e w1 ⟨rfl, hw1⟩
  obtain rfl := hw1.symm
  rw [hmn]
  clear hmn m2
  go_wp2_with fail
  go_loopw [36] (fun i wr => ∃ k : Nat, k ≤ hd ∧ i = .int .i64 k ∧ Hid (∃ nd, wr = wA.drewN nd)) (fun i _ => hd - (intOf i).toNat)
  case atStart => exact ⟨0, Nat.zero_le _, rfl, ⟨0, rfl⟩⟩
  case round =>
    obtain ⟨k, hk, rfl, HW⟩ := hrel
    by_cases hlt : k < hd
    · obtain ⟨o, eo⟩ : ∃ o, o = O3 k := ⟨_, rfl⟩
      obtain ⟨s, es⟩ : ∃ s, s = Z3 k := ⟨_, rfl⟩
      obtain ⟨y, ey⟩ : ∃ y, y = Y3 k := ⟨_, rfl⟩
      have hkL : k < hd + tl := by omega
      have HC1 : Hid (wr.cell? ⟨D1, k * 3, none⟩ = some (.int .i64 o) ∧ wr.cell? ⟨D1, k * 3 + 1, none⟩ = some (.int .i64 s) ∧ wr.cell? ⟨D1, k * 3 + 2, none⟩ = some (.bool y) ∧ wr.cell? ⟨D3, k * 3, none⟩ = some (.int .i64 o) ∧ wr.cell? ⟨D3, k * 3 + 1, none⟩ = some (.int .i64 s) ∧ wr.cell? ⟨D3, k * 3 + 2, none⟩ = some (.bool y)) := by
        obtain ⟨nd, hw⟩ := HW.out
        obtain ⟨g1, g2, g3⟩ := HE.out.1 k hlt
        have p1 := HS.out.1.cells hlt
        have p3 := HS.out.2.2.cells hkL
        rw [g1, g2, g3] at p1
        rw [hw, eo, es, ey]
        exact ⟨p1.1, p1.2.1, p1.2.2, p3.1, p3.2.1, p3.2.2⟩
      obtain ⟨q1, q2, q3, q4, q5, q6⟩ := HC1.out
      have HW2 : Hid (∀ m, ∃ nd, wr.drewN m = wA.drewN nd) := fun m => by
        obtain ⟨nd, hw⟩ := HW.out
        exact ⟨nd + m, by rw [hw, World.drewN_drewN]⟩
      clear eo es ey HC1
      have hkI : (k : Int) < (hd : Int) := by omega
      have hkI2 : (k : Int) < (hd : Int) + (tl : Int) := by omega
      go_upto_region 34 with fail
      go_quiet (fail)
      go_wp2
      go_roundw
      case rel => exact ⟨k + 1, by omega, by go_num, HW2.out _⟩
      case measure => simp [intOf]; omega
    · have hdd : ¬ (k : Int) < (hd : Int) := by omega
      clear hlt
      go_wp2_with fail
      go_loopw [37] (fun i wr => ∃ k2 : Nat, k2 ≤ n2 ∧ i = .int .i64 k2 ∧ Hid (∃ nd, wr = wA.drewN nd)) (fun i _ => n2 - (intOf i).toNat)
      case atStart => exact ⟨0, Nat.zero_le _, rfl, HW⟩
      case round =>
        obtain ⟨k2, hk2, rfl, HV⟩ := hrel
        by_cases hlt : k2 < n2
        · obtain ⟨z, hz⟩ : ∃ z, z = hd + k2 := ⟨_, rfl⟩
          obtain ⟨o, eo⟩ : ∃ o, o = O3 z := ⟨_, rfl⟩
          obtain ⟨s, es⟩ : ∃ s, s = Z3 z := ⟨_, rfl⟩
          obtain ⟨y, ey⟩ : ∃ y, y = Y3 z := ⟨_, rfl⟩
          have hzL : z < hd + tl := by omega
          have hkt : k2 < tl := by omega
          have HC1 : Hid (wr.cell? ⟨D2, k2 * 3, none⟩ = some (.int .i64 o) ∧ wr.cell? ⟨D2, k2 * 3 + 1, none⟩ = some (.int .i64 s) ∧ wr.cell? ⟨D2, k2 * 3 + 2, none⟩ = some (.bool y) ∧ wr.cell? ⟨D3, z * 3, none⟩ = some (.int .i64 o) ∧ wr.cell? ⟨D3, z * 3 + 1, none⟩ = some (.int .i64 s) ∧ wr.cell? ⟨D3, z * 3 + 2, none⟩ = some (.bool y)) := by
            obtain ⟨nd, hw⟩ := HV.out
            obtain ⟨g1, g2, g3⟩ := HE.out.2 k2 hlt
            have p1 := HS.out.2.1.cells hkt
            have p3 := HS.out.2.2.cells hzL
            rw [g1, g2, g3, ← hz] at p1
            rw [hw, eo, es, ey]
            exact ⟨p1.1, p1.2.1, p1.2.2, p3.1, p3.2.1, p3.2.2⟩
          obtain ⟨q1, q2, q3, q4, q5, q6⟩ := HC1.out
          have HW2 : Hid (∀ m, ∃ nd, wr.drewN m = wA.drewN nd) := fun m => by
            obtain ⟨nd, hw⟩ := HV.out
            exact ⟨nd + m, by rw [hw, World.drewN_drewN]⟩
          have hzI : (hd : Int) + (k2 : Int) = (z : Int) := by omega
          have hwz : IntKind.i64.wrap (z : Int) = (z : Int) := by rw [IntKind.wrap_i64]; omega
          have hkI : (k2 : Int) < (tl : Int) := by omega
          have hkI2 : (z : Int) < (hd : Int) + (tl : Int) := by omega
          clear eo es ey HC1 hz
          go_upto_region 39 with fail
          go_quiet (fail)
          go_wp2
          go_roundw
          case rel => exact ⟨k2 + 1, by omega, by go_num, HW2.out _⟩
          case measure => simp [intOf]; omega
        · have hdd2 : ¬ (k2 : Int) < (n2 : Int) := by omega
          clear hlt
          have HZ : Hid (wr.cell? ⟨wb1, 12, none⟩ = some (.int .i64 0) ∧ wr.cell? ⟨wb1, 13, none⟩ = some (.int .i64 n) ∧ wr.cell? ⟨wb1, 1, none⟩ = some (.int .i64 n) ∧ wr.cell? ⟨wb1, 14, none⟩ = some (.int .i64 A) ∧ wr.cell? ⟨wb2, 12, none⟩ = some (.int .i64 0) ∧ wr.cell? ⟨wb2, 13, none⟩ = some (.int .i64 n) ∧ wr.cell? ⟨wb2, 1, none⟩ = some (.int .i64 n) ∧ wr.cell? ⟨wb2, 14, none⟩ = some (.int .i64 A)) := by
            obtain ⟨nd, hw⟩ := HV.out
            rw [hw]
            exact HC.out
          obtain ⟨b12, b13, b1, b14, c12, c13, c1, c14⟩ := HZ.out
          have HB9 : Hid (∀ m, Below wX.heap.size wX (wr.drewN m)) := fun m => by
            obtain ⟨nd, hw⟩ := HV.out
            rw [hw, World.drewN_drewN]
            exact HBl.out _
          go_wp2_with fail
          refine (state_any wb1 0 n n A wr b12 b13 b1 b14).mono ?_
          rintro e w5 ⟨rfl, nd5, hw5⟩
          have d12 : w5.cell? ⟨wb2, 12, none⟩ = some (.int .i64 0) := by rw [hw5]; exact c12
          have d13 : w5.cell? ⟨wb2, 13, none⟩ = some (.int .i64 n) := by rw [hw5]; exact c13
          have d1 : w5.cell? ⟨wb2, 1, none⟩ = some (.int .i64 n) := by rw [hw5]; exact c1
          have d14 : w5.cell? ⟨wb2, 14, none⟩ = some (.int .i64 A) := by rw [hw5]; exact c14
          have HB8 : Hid (∀ m, Below wX.heap.size wX (w5.drewN m)) := fun m => by rw [hw5, World.drewN_drewN]; exact HB9.out _
          clear hw5 b12 b13 b1 b14 c12 c13 c1 c14 HZ
          go_wp2_with fail
          refine (state_any wb2 0 n n A w5 d12 d13 d1 d14).mono ?_
          rintro e w6 ⟨rfl, nd6, hw6⟩
          have HB7 : Hid (Below wX.heap.size wX w6) := by show Below _ _ _; rw [hw6]; exact HB8.out _
          clear hw6 d12 d13 d1 d14
          go_wp2
          exact HP.out _ HB7.out
end Go.Proofs.Qxb6613648aFmt

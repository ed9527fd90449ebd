/-
  readTrun: its count and offset.
-/
import Derived.Test.Qxb6613648aFmtRFirst
namespace Go.Proofs.Qxb6613648aFmt
open Go.RowKit
set_option linter.unusedVariables false
set_option linter.unusedSimpArgs false
attribute [local go_sem] setCell_drewN alloc_drewN

theorem at_bd {B : Nat → Int} {bd : Nat} {base next f far : Int} (hb0 : 0 ≤ base) (hb1 : base ≤ far) (hn0 : 0 ≤ next) (hn1 : next ≤ far) (hf1 : far ≤ 4611686018427387904) : -2147483648 ≤ atOf B bd base next f ∧ atOf B bd base next f ≤ 4611686020574871552 := by
  unfold atOf
  have := wrap_bd (be B (bd + 8))
  split <;> omega

theorem Oth.trans {gb : Nat} {w1 w2 w3 : World} (h1 : Oth gb w1 w2) (h2 : Oth gb w2 w3) : Oth gb w1 w3 :=
  ⟨fun k hk hne => (h2.same k (Nat.lt_of_lt_of_le hk h1.size) hne).trans (h1.same k hk hne), Nat.le_trans h1.size h2.size, fun N hN hN2 => (h1.below N hN hN2).trans (h2.below N hN (Nat.le_trans hN2 h1.size))⟩
theorem Oth.refl (gb : Nat) (w : World) : Oth gb w w := ⟨fun _ _ _ => rfl, Nat.le_refl _, fun _ _ _ => Below.refl _ _⟩

set_option maxRecDepth 1000000 in
set_option maxHeartbeats 4000000 in
theorem rt_4 (N fb mb rb tb sb P len kb Q cn e0 bd en : Nat) (B : Nat → Int) (f base next far left sz fl t0 t1 t2 t3 st : Int) (hs hf : Bool) (post : Ending → World → Prop) (w0 wA : World) (u1 u3 u6 u8 u10 u11 u12 u13 u14 u17 u18 u19 u20 u21 u22 u23 u24 u25 u26 u27 u28 u29 u30 u31 u32 u33 u34 u35 u36 u37 u38 u39 u40 u41 u42 u43 u44 u45 u46 u47 u48 u49 u50 u51 u52 u53 u54 u55 u56 u57 u58 u59 u60 u61 u62 u63 u64 u65 u66 u67 u68 u69 u70 u71 u72 u73 u74 u75 u76 u77 u78 u79 u80 u81 u82 u83 u84 u85 u86 u87 u88 u89 u90 u91 u92 u93 u94 u95 u96 u97 u98 u99 u100 u101 u102 u103 u104 u105 u106 u107 u108 u109 u110 u111 u112 u113 u114 u115 u116 u117 u118 u119 u120 u121 u122 u123 u124 u125 u126 u127 u128 u129 u130 u131 u132 u133 u134 u135 u136 u137 u138 u139 u140 u141 u142 u143 u144 u145 u146 u147 u148 u149 u150 u151 u152 u153 u154 u155 u156 u157 u158 u159 u160 u161 u162 u163 u164 u165 u166 u167 u168 u169 u170 u171 u172 u173 u174 u175 u176 u177 u178 u179 u180 u181 u182 u183 u184 u185 u186 u187 u188 u189 u190 u191 u192 u193 u194 u195 u196 u197 u198 u199 u200 u201 u202 u203 u204 u205 u206 u207 u208 u209 u210 u211 u212 u213 u214 u215 u216 u217 u218 u219 u220 u221 u222 u223 u224 u225 u226 u227 u228 u229 u230 u231 u232 u233 u234 u235 u236 u237 u238 u239 : Value)
    (hRT : RT wA fb mb rb tb sb P len far left B (.slice none 0 0) 0) (hbl : Below N w0 wA) (hN : N ≤ sb) (hNm : N ≤ mb)
    (hbox : wA.heap[kb]? = some (.cells #[.int .u8 t0, .int .u8 t1, .int .u8 t2, .int .u8 t3, .int .i64 st, .int .i64 bd, .int .i64 en] 114 (0, 0))) (hdf : wA.heap[kb + 1]? = some (.cells #[.int .u32 sz, .int .u32 fl, .bool hs, .bool hf] 109 (0, 0)))
    (hrow : Row wA Q (en - bd) (fun i => B (bd + i))) (hbe : bd ≤ en) (hen : en ≤ len) (hlen : len ≤ 1048576) (hB : Byte B) (hcn : cn ≤ 65536) (hsz0 : 0 ≤ sz) (hsz1 : sz ≤ 4294967295) (hf0 : 0 ≤ far) (hf1 : far ≤ 4611686018427387904) (hleft : (cn : Int) ≤ left) (hleft1 : left ≤ 65536)
    (he0 : (e0 : Int) = bd + 4 + hdrOf f) (hen0 : e0 ≤ en) (ecn : (cn : Int) = be B (bd + 4)) (hb0 : 0 ≤ base) (hb1 : base ≤ far) (hn0 : 0 ≤ next) (hn1 : next ≤ far) (hroom : (cn : Int) * wdOf f ≤ en - e0) (hone : 1 ≤ cn → (hs = true ∨ 0 ≤ saOf f) ∧ ((hasBit f 4 || hf) = true ∨ 0 ≤ faOf f)) (htwo : 2 ≤ cn → (hs = true ∨ 0 ≤ saOf f) ∧ (hf = true ∨ 0 ≤ faOf f))
    (hpost : ∀ w' qb cp, RT w' fb mb rb tb sb P len far (left - cn) B (.slice (some ⟨qb, 0, none⟩) 1 cp) cn → TrunAt w' qb #[.int .i64 (atOf B bd base next f), .int .i64 e0, .int .i64 cn, .int .i64 (wdOf f), .int .i64 (saOf f), .int .i64 (faOf f), .int .u32 sz, .int .u32 (ffOf B bd fl f), .bool hs, .bool (hasBit f 4 || hf), .int .u32 sz, .int .u32 fl, .bool hs, .bool hf] → Below N w0 w' → post (.returned (.tuple #[.int .i64 (offAt far (atOf B bd base next f) (szOf B e0 (wdOf f) (saOf f) sz) cn), .nilIface])) w') :
    Code.wp Tryf.prog ((Tryf.f50.body.bind (fromReg 4)).getD .skip) (bodyPost Tryf.prog Tryf.f50 post) ⟨#[.pointer (some ⟨fb, 0, none⟩), u1, .pointer (some ⟨tb, 0, none⟩), u3, .int .i64 base, .int .i64 next, u6, .pointer (some ⟨kb, 0, none⟩), u8, .pointer (some ⟨kb + 1, 0, none⟩), u10, u11, u12, u13, u14, .int .u32 f, .slice (some ⟨Q, 4, none⟩) (en - bd - 4) (en - bd - 4), u17, u18, u19, u20, u21, u22, u23, u24, u25, u26, u27, u28, u29, u30, u31, u32, u33, u34, u35, u36, u37, u38, u39, u40, u41, u42, u43, u44, u45, u46, u47, u48, u49, u50, u51, u52, u53, u54, u55, u56, u57, u58, u59, u60, u61, u62, u63, u64, u65, u66, u67, u68, u69, u70, u71, u72, u73, u74, u75, u76, u77, u78, u79, u80, u81, u82, u83, u84, u85, u86, u87, u88, u89, u90, u91, u92, u93, u94, u95, u96, u97, u98, u99, u100, u101, u102, u103, u104, u105, u106, u107, u108, u109, u110, u111, u112, u113, u114, u115, u116, u117, u118, u119, u120, u121, u122, u123, u124, u125, u126, u127, u128, u129, u130, u131, u132, u133, u134, u135, u136, u137, u138, u139, u140, u141, u142, u143, u144, u145, u146, u147, u148, u149, u150, u151, u152, u153, u154, u155, u156, u157, u158, u159, u160, u161, u162, u163, u164, u165, u166, u167, u168, u169, u170, u171, u172, u173, u174, u175, u176, u177, u178, u179, u180, u181, u182, u183, u184, u185, u186, u187, u188, u189, u190, u191, u192, u193, u194, u195, u196, u197, u198, u199, u200, u201, u202, u203, u204, u205, u206, u207, u208, u209, u210, u211, u212, u213, u214, u215, u216, u217, u218, u219, u220, u221, u222, u223, u224, u225, u226, u227, u228, u229, u230, u231, u232, u233, u234, u235, u236, u237, u238, u239], []⟩ wA := by
  have HAll : Hid (RT wA fb mb rb tb sb P len far left B (.slice none 0 0) 0 ∧ Below N w0 wA ∧ wA.heap[kb]? = some (.cells #[.int .u8 t0, .int .u8 t1, .int .u8 t2, .int .u8 t3, .int .i64 st, .int .i64 bd, .int .i64 en] 114 (0, 0)) ∧ wA.heap[kb + 1]? = some (.cells #[.int .u32 sz, .int .u32 fl, .bool hs, .bool hf] 109 (0, 0)) ∧ Row wA Q (en - bd) (fun i => B (bd + i)) ∧ Byte B) := ⟨hRT, hbl, hbox, hdf, hrow, hB⟩
  have HO : Hid ((1 ≤ cn → (hs = true ∨ 0 ≤ saOf f) ∧ ((hasBit f 4 || hf) = true ∨ 0 ≤ faOf f)) ∧ (2 ≤ cn → (hs = true ∨ 0 ≤ saOf f) ∧ (hf = true ∨ 0 ≤ faOf f))) := ⟨hone, htwo⟩
  have HP : Hid (∀ w' qb cp, RT w' fb mb rb tb sb P len far (left - cn) B (.slice (some ⟨qb, 0, none⟩) 1 cp) cn → TrunAt w' qb #[.int .i64 (atOf B bd base next f), .int .i64 e0, .int .i64 cn, .int .i64 (wdOf f), .int .i64 (saOf f), .int .i64 (faOf f), .int .u32 sz, .int .u32 (ffOf B bd fl f), .bool hs, .bool (hasBit f 4 || hf), .int .u32 sz, .int .u32 fl, .bool hs, .bool hf] → Below N w0 w' → post (.returned (.tuple #[.int .i64 (offAt far (atOf B bd base next f) (szOf B e0 (wdOf f) (saOf f) sz) cn), .nilIface])) w') := hpost
  have HNum : Hid ((e0 : Int) = bd + 4 + hdrOf f ∧ (cn : Int) = be B (bd + 4) ∧ (cn : Int) * wdOf f ≤ en - e0) := ⟨he0, ecn, hroom⟩
  have cB : ∀ i, wA.cell? ⟨kb, i, none⟩ = (#[.int .u8 t0, .int .u8 t1, .int .u8 t2, .int .u8 t3, .int .i64 st, .int .i64 bd, .int .i64 en] : Array Value)[i]? := by intro i; simp [World.cell?, hbox]
  have hNA : N ≤ wA.heap.size := Nat.le_trans hN (Nat.le_of_lt (lt_of_block hRT.sbh))
  have lK : kb < wA.heap.size := lt_of_block hbox
  have bb1 := bitI_bd f 1
  have bb4 := bitI_bd f 4
  have hE8 : bd + 8 + 4 * (bitI f 1).toNat + 4 * (bitI f 4).toNat = e0 := by unfold hdrOf at he0; omega
  have abd := at_bd (B := B) (bd := bd) (f := f) hb0 hb1 hn0 hn1 hf1
  have HA1 : Hid (Below wA.heap.size wA (wA.alloc (.cells #[.int .u8 t0, .int .u8 t1, .int .u8 t2, .int .u8 t3, .int .i64 st, .int .i64 bd, .int .i64 en, .slice (some ⟨Q, 4, none⟩) (en - bd - 4) (en - bd - 4), .nilIface] 145)) ∧ (wA.alloc (.cells #[.int .u8 t0, .int .u8 t1, .int .u8 t2, .int .u8 t3, .int .i64 st, .int .i64 bd, .int .i64 en, .slice (some ⟨Q, 4, none⟩) (en - bd - 4) (en - bd - 4), .nilIface] 145)).heap[wA.heap.size]? = some (.cells #[.int .u8 t0, .int .u8 t1, .int .u8 t2, .int .u8 t3, .int .i64 st, .int .i64 bd, .int .i64 en, .slice (some ⟨Q, 4, none⟩) (en - bd - 4) (en - bd - 4), .nilIface] 145 (0, 0))) := ⟨(Below.refl _ _).alloc (Nat.le_refl _) _, by show (wA.heap.push _)[wA.heap.size]? = _; simp⟩
  clear hRT hbl hbox hdf hrow hB hone htwo hpost he0 ecn hroom
  have hl4 : 4 ≤ en - bd - 4 := by omega
  have hl2 : en - bd - 4 ≤ 1048576 := by omega
  conv => arg 2; whnf
  go_wp2_with fail
  refine (fr_u32 wA.heap.size Q (en - bd) 4 (en - bd - 4) bd en t0 t1 t2 t3 st (fun i => B (bd + i)) _ HA1.out.2 (HAll.out.2.2.2.2.1.below HA1.out.1 HAll.out.2.2.2.2.1.lt) (fun i => HAll.out.2.2.2.2.2 (bd + i)) hl4 hl2 (by omega)).mono ?_
  rintro e w2 ⟨rfl, p2, hp2, hg2, ho2⟩
  rw [show be (fun i => B (bd + i)) 4 = (cn : Int) from HNum.out.2.1.symm]
  have H2 : Hid ((0 < en - bd - 4 - 4 → p2 = ⟨Q, 8, none⟩) ∧ w2.heap[wA.heap.size]? = some (.cells #[.int .u8 t0, .int .u8 t1, .int .u8 t2, .int .u8 t3, .int .i64 st, .int .i64 bd, .int .i64 en, .slice (some p2) (en - bd - 4 - 4) (en - bd - 4 - 4), .nilIface] 145 (0, 0)) ∧ Oth wA.heap.size wA w2) := ⟨hp2, hg2, Oth.trans ⟨fun k hk _ => HA1.out.1.block k hk, HA1.out.1.size, fun M _ h => HA1.out.1.mono h⟩ ho2⟩
  clear hp2 hg2 ho2 cB
  go_upto_if 60 with fail
  go_cut [20] (fun s wx => s = .int .i64 (atOf B bd base next f) ∧ Hid (∃ (p3 : Addr) (o3 l3 : Nat), wx.heap[wA.heap.size]? = some (.cells #[.int .u8 t0, .int .u8 t1, .int .u8 t2, .int .u8 t3, .int .i64 st, .int .i64 bd, .int .i64 en, .slice (some p3) l3 l3, .nilIface] 145 (0, 0)) ∧ (0 < l3 → p3 = ⟨Q, o3, none⟩) ∧ o3 + l3 = en - bd ∧ (o3 : Int) = 8 + 4 * bitI f 1 ∧ Oth wA.heap.size wA wx))
  case first =>
    cases c1 : (bits .and .u32 f 1 != 0)
    · have h1 : hasBit f 1 = false := c1
      have HZ : Hid (hasBit f 1 = false ∧ bitI f 1 = 0) := ⟨h1, (no_bit h1).2⟩
      clear h1
      go_wp2
      go_meet
      refine ⟨ival (by unfold atOf; rw [HZ.out.1]; rfl), p2, 8, en - bd - 4 - 4, H2.out.2.1, H2.out.1, by omega, by rw [HZ.out.2]; rfl, H2.out.2.2⟩
    · have h1 : hasBit f 1 = true := c1
      have HZ : Hid (hasBit f 1 = true ∧ bitI f 1 = 1) := ⟨h1, (yes_bit h1).2⟩
      have hl8 : 4 ≤ en - bd - 4 - 4 := by have := HZ.out.2; omega
      clear h1
      obtain rfl := H2.out.1 (by omega)
      go_wp2_with fail
      refine (fr_u32 wA.heap.size Q (en - bd) 8 (en - bd - 4 - 4) bd en t0 t1 t2 t3 st (fun i => B (bd + i)) w2 H2.out.2.1 (HAll.out.2.2.2.2.1.of_block (H2.out.2.2.same Q HAll.out.2.2.2.2.1.lt (by have := HAll.out.2.2.2.2.1.lt; omega))) (fun i => HAll.out.2.2.2.2.2 (bd + i)) hl8 (by omega) (by omega)).mono ?_
      rintro e w3 ⟨rfl, p3, hp3, hg3, ho3⟩
      have H3 : Hid ((0 < en - bd - 4 - 4 - 4 → p3 = ⟨Q, 12, none⟩) ∧ w3.heap[wA.heap.size]? = some (.cells #[.int .u8 t0, .int .u8 t1, .int .u8 t2, .int .u8 t3, .int .i64 st, .int .i64 bd, .int .i64 en, .slice (some p3) (en - bd - 4 - 4 - 4) (en - bd - 4 - 4 - 4), .nilIface] 145 (0, 0)) ∧ Oth wA.heap.size wA w3) := ⟨hp3, hg3, H2.out.2.2.trans ho3⟩
      obtain ⟨x, hx, hx0, hx1⟩ : ∃ x, x = be (fun i => B (bd + i)) 8 ∧ 0 ≤ x ∧ x ≤ 4294967295 := ⟨_, rfl, (be_bd (B := fun i => B (bd + i)) (fun i => HAll.out.2.2.2.2.2 (bd + i)) 8).1, (be_bd (B := fun i => B (bd + i)) (fun i => HAll.out.2.2.2.2.2 (bd + i)) 8).2⟩
      rw [← hx]
      have HX : Hid (atOf B bd base next f = base + wrap32 x) := by show _ = _; rw [hx]; unfold atOf; rw [HZ.out.1]; rfl
      have hwx := wrap_bd x
      clear hx hp3 hg3 ho3
      go_wp2
      go_meet
      refine ⟨ival (by rw [HX.out]), p3, 12, en - bd - 4 - 4 - 4, H3.out.2.1, H3.out.1, by omega, by rw [HZ.out.2]; rfl, H3.out.2.2⟩
  case rest =>
    rename_i KB hKB
    obtain ⟨rfl, hc2⟩ := hcut
    refine hKB _ _ ?_
    obtain ⟨p3, o3, l3, q1, q2, q3, q4, q5⟩ := hc2.out
    obtain ⟨hRT, hbl, hbox, hdf, hrow, hB⟩ := HAll.out
    have hG : wA.heap.size < wc.heap.size := lt_of_block q1
    have same : ∀ {k : Nat} {o : Obj}, wA.heap[k]? = some o → wc.heap[k]? = some o := fun {k o} h => (q5.same k (lt_of_block h) (by have := lt_of_block h; omega)).trans h
    have hbw : Below wA.heap.size wA wc := q5.below _ (Nat.le_refl _) (Nat.le_refl _)
    refine rt_9 N fb mb rb tb sb P len kb wA.heap.size Q o3 l3 cn bd en p3 B f _ far left sz fl t0 t1 t2 t3 st hs hf post w0 _ _ _ _ _ _ _ _ _ _ _ _ _ _ _ _ _ _ _ _ _ _ _ _ _ _ _ _ _ _ _ _ _ _ _ _ _ _ _ _ _ _ _ _ _ _ _ _ _ _ _ _ _ _ _ _ _ _ _ _ _ _ _ _ _ _ _ _ _ _ _ _ _ _ _ _ _ _ _ _ _ _ _ _ _ _ _ _ _ _ _ _ _ _ _ _ _ _ _ _ _ _ _ _ _ _ _ _ _ _ _ _ _ _ _ _ _ _ _ _ _ _ _ _ _ _ _ _ _ _ _ _ _ _ _ _ _ _ _ _ _ _ _ _ _ _ _ _ _ _ _ _ _ _ _ _ _ _ _ _ _ _ _ _ _ _ _ _ _ _ _ _ _ _ _ _ _ _ _ _ _ _ _ _ _ _ _ _ _ _ _ _ _ _ _ _ _ _ _ _ _ _ _ _ _ _ _ _ _ _ _ _ _ _ _ _ _ _ _ _ _ _ _ _ _ _ _ _ _ _ _ _ _ (hRT.step hbw) (hbl.trans (hbw.mono hNA)) hN hNm (same hbox) (same hdf) (hrow.of_block (q5.same Q hrow.lt (by have := hrow.lt; omega))) hbe hen hlen hB hcn hsz0 hsz1 hf0 hf1 hleft hleft1 q1 hNA q2 q3 (fun h => by have := (yes_bit h).2; omega) abd.1 abd.2
      (by have := HNum.out.2.2; omega) HO.out.1 HO.out.2 (fun w' qb cp e1 g0 g1 g2 g3 => ?_)
    obtain rfl : e1 = e0 := by omega
    refine HP.out w' qb cp g1 ?_ g3
    have hx : (if hasBit f 4 then be B (bd + o3) else fl) = ffOf B bd fl f := by
      unfold ffOf
      split
      · rename_i h
        have h4 := (yes_bit h).2
        congr 2
        unfold hdrOf
        omega
      · rfl
    rw [← hx]
    exact g2
end Go.Proofs.Qxb6613648aFmt

/-
  readTrun: where an entry's fields stand.
-/
import Derived.Test.Qxb6613648aFmtRTab
namespace Go.Proofs.Qxb6613648aFmt
open Go.RowKit
set_option linter.unusedVariables false
set_option linter.unusedSimpArgs false
attribute [local go_sem] setCell_drewN alloc_drewN

theorem no_bit {f m : Int} (h : hasBit f m = false) : (bits .and .u32 f m == 0) = true ∧ bitI f m = 0 := by
  refine ⟨?_, by unfold bitI; rw [h]; rfl⟩
  unfold hasBit at h
  simpa using h
theorem yes_bit {f m : Int} (h : hasBit f m = true) : (bits .and .u32 f m == 0) = false ∧ bitI f m = 1 := by
  refine ⟨?_, by unfold bitI; rw [h]; rfl⟩
  unfold hasBit at h
  simpa using h

/-- The fields before mask k: the size's place, the flags' place, the width. -/
def Lay (f : Int) (s g w i : Value) : Prop :=
  (i = .int .i64 0 ∧ s = .int .i64 (-1) ∧ g = .int .i64 (-1) ∧ w = .int .i64 0)
  ∨ (i = .int .i64 1 ∧ s = .int .i64 (-1) ∧ g = .int .i64 (-1) ∧ w = .int .i64 (4 * bitI f 256))
  ∨ (i = .int .i64 2 ∧ s = .int .i64 (saOf f) ∧ g = .int .i64 (-1) ∧ w = .int .i64 (4 * (bitI f 256 + bitI f 512)))
  ∨ (i = .int .i64 3 ∧ s = .int .i64 (saOf f) ∧ g = .int .i64 (faOf f) ∧ w = .int .i64 (4 * (bitI f 256 + bitI f 512 + bitI f 1024)))
  ∨ (i = .int .i64 4 ∧ s = .int .i64 (saOf f) ∧ g = .int .i64 (faOf f) ∧ w = .int .i64 (wdOf f))

theorem ival {k : IntKind} {a b : Int} (h : a = b) : Value.int k a = .int k b := by rw [h]

set_option maxRecDepth 1000000 in
set_option maxHeartbeats 4000000 in
theorem rt_14 (N fb mb rb tb sb P len kb gb fi Q o lE cn e0 bd en : Nat) (pE : Addr) (B : Nat → Int) (f a far left sz fl x wd sa fa t0 t1 t2 t3 st : Int) (hs hf b : Bool) (post : Ending → World → Prop) (w0 wA : World) (u1 u3 u4 u5 u6 u8 u10 u11 u12 u13 u14 u16 u17 u22 u23 u24 u25 u26 u27 u28 u29 u30 u31 u32 u33 u34 u35 u36 u37 u38 u39 u40 u41 u42 u43 u44 u45 u46 u47 u48 u49 u50 u51 u52 u53 u54 u55 u56 u57 u58 u59 u60 u61 u62 u63 u64 u65 u66 u67 u68 u69 u70 u71 u72 u73 u74 u75 u76 u77 u78 u79 u80 u81 u82 u83 u84 u85 u86 u87 u88 u89 u90 u91 u92 u93 u94 u95 u96 u97 u98 u99 u100 u101 u102 u103 u104 u105 u106 u107 u108 u109 u110 u111 u112 u113 u114 u115 u116 u117 u118 u119 u120 u121 u122 u123 u124 u125 u126 u127 u128 u129 u130 u131 u132 u133 u134 u135 u136 u137 u138 u139 u140 u141 u142 u143 u144 u145 u146 u147 u148 u149 u150 u151 u152 u153 u154 u155 u156 u157 u158 u159 u160 u161 u162 u163 u164 u165 u166 u167 u168 u169 u170 u171 u172 u173 u174 u175 u176 u177 u178 u179 u180 u181 u182 u183 u184 u185 u186 u187 u188 u189 u190 u191 u192 u193 u194 u195 u196 u197 u198 u199 u200 u201 u202 u203 u204 u205 u206 u207 u208 u209 u210 u211 u212 u213 u214 u215 u216 u217 u218 u219 u220 u221 u222 u223 u224 u225 u226 u227 u228 u229 u230 u231 u232 u233 u234 u235 u236 u237 u238 u239 : Value)
    (hRT : RT wA fb mb rb tb sb P len far left B (.slice none 0 0) 0) (hbl : Below N w0 wA) (hN : N ≤ sb) (hQs : Q ≠ sb)
    (hbox : wA.heap[kb]? = some (.cells #[.int .u8 t0, .int .u8 t1, .int .u8 t2, .int .u8 t3, .int .i64 st, .int .i64 bd, .int .i64 en] 114 (0, 0))) (hdf : wA.heap[kb + 1]? = some (.cells #[.int .u32 sz, .int .u32 fl, .bool hs, .bool hf] 109 (0, 0))) (hfi : wA.heap[fi]? = some (.cells #[.int .u32 sz, .int .u32 x, .bool hs, .bool b] 109 (0, 0)))
    (hent : (en : Int) - lE = e0) (hen : en ≤ len) (hlen : len ≤ 1048576)
    (hB : Byte B) (hcn : cn ≤ 65536) (hl : lE ≤ 1048576) (hsz0 : 0 ≤ sz) (hsz1 : sz ≤ 4294967295) (ha0 : -2147483648 ≤ a) (ha1 : a ≤ 4611686020574871552) (hf0 : 0 ≤ far) (hf1 : far ≤ 4611686018427387904)
    (hsa1 : sa ≤ 16) (hw0 : 0 ≤ wd) (hw1 : wd ≤ 16) (hpE : 0 ≤ sa → 0 < cn → pE = ⟨Q, o, none⟩) (hE : 0 ≤ sa → 0 < cn → Bytes wA Q o lE (fun i => B (e0 + i))) (hin : 0 ≤ sa → ∀ j : Nat, j < cn → (j : Int) * wd + sa + 4 ≤ lE)
    (hpost : ∀ w' qb cp, RT w' fb mb rb tb sb P len far (left - cn) B (.slice (some ⟨qb, 0, none⟩) 1 cp) cn → TrunAt w' qb #[.int .i64 a, .int .i64 e0, .int .i64 cn, .int .i64 wd, .int .i64 sa, .int .i64 fa, .int .u32 sz, .int .u32 x, .bool hs, .bool b, .int .u32 sz, .int .u32 fl, .bool hs, .bool hf] → Below N w0 w' → post (.returned (.tuple #[.int .i64 (offAt far a (szOf B e0 wd sa sz) cn), .nilIface])) w')
    (hone : 1 ≤ cn → (hs = true ∨ 0 ≤ sa) ∧ (b = true ∨ 0 ≤ fa)) (htwo : 2 ≤ cn → (hs = true ∨ 0 ≤ sa) ∧ (hf = true ∨ 0 ≤ fa)) (hgb : wA.cell? ⟨gb, 7, none⟩ = some (.slice (some pE) lE lE)) (hroom : (cn : Int) * wd ≤ lE) (hleft : (cn : Int) ≤ left) (hleft1 : left ≤ 65536) (hNm : N ≤ mb) (hQm : Q ≠ mb) (ewd : wd = wdOf f) (esa : sa = saOf f) (efa : fa = faOf f) :
    Code.wp Tryf.prog ((Tryf.f50.body.bind (fromReg 14)).getD .skip) (bodyPost Tryf.prog Tryf.f50 post) ⟨#[.pointer (some ⟨fb, 0, none⟩), u1, .pointer (some ⟨tb, 0, none⟩), u3, u4, u5, u6, .pointer (some ⟨kb, 0, none⟩), u8, .pointer (some ⟨kb + 1, 0, none⟩), u10, u11, u12, u13, u14, .int .u32 f, u16, u17, .pointer (some ⟨gb, 0, none⟩), .int .u32 cn, .int .i64 a, .pointer (some ⟨fi, 0, none⟩), u22, u23, u24, u25, u26, u27, u28, u29, u30, u31, u32, u33, u34, u35, u36, u37, u38, u39, u40, u41, u42, u43, u44, u45, u46, u47, u48, u49, u50, u51, u52, u53, u54, u55, u56, u57, u58, u59, u60, u61, u62, u63, u64, u65, u66, u67, u68, u69, u70, u71, u72, u73, u74, u75, u76, u77, u78, u79, u80, u81, u82, u83, u84, u85, u86, u87, u88, u89, u90, u91, u92, u93, u94, u95, u96, u97, u98, u99, u100, u101, u102, u103, u104, u105, u106, u107, u108, u109, u110, u111, u112, u113, u114, u115, u116, u117, u118, u119, u120, u121, u122, u123, u124, u125, u126, u127, u128, u129, u130, u131, u132, u133, u134, u135, u136, u137, u138, u139, u140, u141, u142, u143, u144, u145, u146, u147, u148, u149, u150, u151, u152, u153, u154, u155, u156, u157, u158, u159, u160, u161, u162, u163, u164, u165, u166, u167, u168, u169, u170, u171, u172, u173, u174, u175, u176, u177, u178, u179, u180, u181, u182, u183, u184, u185, u186, u187, u188, u189, u190, u191, u192, u193, u194, u195, u196, u197, u198, u199, u200, u201, u202, u203, u204, u205, u206, u207, u208, u209, u210, u211, u212, u213, u214, u215, u216, u217, u218, u219, u220, u221, u222, u223, u224, u225, u226, u227, u228, u229, u230, u231, u232, u233, u234, u235, u236, u237, u238, u239], []⟩ wA := by
  have HAll : Hid (RT wA fb mb rb tb sb P len far left B (.slice none 0 0) 0 ∧ Below N w0 wA ∧ wA.heap[kb]? = some (.cells #[.int .u8 t0, .int .u8 t1, .int .u8 t2, .int .u8 t3, .int .i64 st, .int .i64 bd, .int .i64 en] 114 (0, 0)) ∧ wA.heap[kb + 1]? = some (.cells #[.int .u32 sz, .int .u32 fl, .bool hs, .bool hf] 109 (0, 0)) ∧ wA.heap[fi]? = some (.cells #[.int .u32 sz, .int .u32 x, .bool hs, .bool b] 109 (0, 0)) ∧ wA.cell? ⟨gb, 7, none⟩ = some (.slice (some pE) lE lE)) := ⟨hRT, hbl, hbox, hdf, hfi, hgb⟩
  have HNum : Hid ((en : Int) - lE = e0 ∧ Byte B ∧ (cn : Int) * wd ≤ lE) := ⟨hent, hB, hroom⟩
  have HE : Hid ((0 ≤ sa → 0 < cn → pE = ⟨Q, o, none⟩) ∧ (0 ≤ sa → 0 < cn → Bytes wA Q o lE (fun i => B (e0 + i))) ∧ (0 ≤ sa → ∀ j : Nat, j < cn → (j : Int) * wd + sa + 4 ≤ lE)) := ⟨hpE, hE, hin⟩
  have HP : Hid (∀ w' qb cp, RT w' fb mb rb tb sb P len far (left - cn) B (.slice (some ⟨qb, 0, none⟩) 1 cp) cn → TrunAt w' qb #[.int .i64 a, .int .i64 e0, .int .i64 cn, .int .i64 wd, .int .i64 sa, .int .i64 fa, .int .u32 sz, .int .u32 x, .bool hs, .bool b, .int .u32 sz, .int .u32 fl, .bool hs, .bool hf] → Below N w0 w' → post (.returned (.tuple #[.int .i64 (offAt far a (szOf B e0 wd sa sz) cn), .nilIface])) w') := hpost
  have HO : Hid ((1 ≤ cn → (hs = true ∨ 0 ≤ sa) ∧ (b = true ∨ 0 ≤ fa)) ∧ (2 ≤ cn → (hs = true ∨ 0 ≤ sa) ∧ (hf = true ∨ 0 ≤ fa))) := ⟨hone, htwo⟩
  have HW : Hid (wd = wdOf f ∧ sa = saOf f ∧ fa = faOf f) := ⟨ewd, esa, efa⟩
  have HB0 : Hid (∀ o, Below wA.heap.size wA (wA.alloc o)) := fun o => (Below.refl _ _).alloc (Nat.le_refl _) o
  clear hRT hbl hbox hdf hfi hent hB hpE hE hin hpost hone htwo hroom hgb ewd esa efa
  conv => arg 2; whnf
  conv => arg 4; zeta
  refine wp_seq_k fun KA hKA => ?_
  go_cut [22, 23, 24] (fun s g v wx => s = .int .i64 (-1) ∧ g = .int .i64 (-1) ∧ v = .int .i64 0 ∧ wx = wA)
  case first =>
    go_wp2
    go_meet
    exact ⟨rfl, rfl, rfl, rfl⟩
  case rest =>
    obtain ⟨rfl, rfl, rfl, rfl⟩ := hcut
    obtain ⟨wB, hwB⟩ : ∃ wB, wB = wc := ⟨_, rfl⟩
    subst hwB
    refine hKA _ _ ?_
    refine wp_seq_k fun KB hKB => ?_
    go_cut [22, 23, 24, 26, 78, 79, 80] (fun s g v _ _ _ _ wx => s = .int .i64 sa ∧ g = .int .i64 fa ∧ v = .int .i64 wd ∧ Hid (Below wB.heap.size wB wx))
    case first =>
      go_wp2_with fail
      go_loop [22, 23, 24, 26, 80] (fun s g v _ i => Hid (Lay f s g v i)) (fun _ _ _ _ i => 4 - (intOf i).toNat)
      case atStart => exact .inl ⟨rfl, rfl, rfl, rfl⟩
      case round =>
        have HL := hrel.out
        clear hrel
        rcases HL with ⟨rfl, rfl, rfl, rfl⟩ | ⟨rfl, rfl, rfl, rfl⟩ | ⟨rfl, rfl, rfl, rfl⟩ | ⟨rfl, rfl, rfl, rfl⟩ | ⟨rfl, rfl, rfl, rfl⟩
        ·
          cases hb : hasBit f 256
          · obtain ⟨h1, h2⟩ := no_bit hb
            have HZ : Hid (bitI f 256 = 0 ∧ hasBit f 256 = false) := ⟨h2, hb⟩
            clear hb h2
            go_wp2
            go_round
            case rel => exact .inr (.inl ⟨rfl, rfl, rfl, ival (by rw [HZ.out.1]; rfl)⟩)
            case measure => simp [intOf]
          · obtain ⟨h1, h2⟩ := yes_bit hb
            have HZ : Hid (bitI f 256 = 1 ∧ hasBit f 256 = true) := ⟨h2, hb⟩
            clear hb h2
            go_wp2
            go_round
            case rel => exact .inr (.inl ⟨rfl, rfl, rfl, ival (by rw [HZ.out.1]; rfl)⟩)
            case measure => simp [intOf]
        ·
          obtain ⟨x, HX, hx0, hx1⟩ : ∃ x : Int, Hid (x = 4 * bitI f 256) ∧ 0 ≤ x ∧ x ≤ 12 := ⟨_, rfl, by have := bitI_bd f 256; have := bitI_bd f 512; have := bitI_bd f 1024; omega, by have := bitI_bd f 256; have := bitI_bd f 512; have := bitI_bd f 1024; omega⟩
          rw [show 4 * bitI f 256 = x from HX.out.symm]
          cases hb : hasBit f 512
          · obtain ⟨h1, h2⟩ := no_bit hb
            have HZ : Hid (bitI f 512 = 0 ∧ hasBit f 512 = false) := ⟨h2, hb⟩
            clear hb h2
            go_wp2
            go_round
            case rel => exact .inr (.inr (.inl ⟨rfl, ival (by unfold saOf; rw [HZ.out.2]; rfl), rfl, ival (by rw [HZ.out.1, HX.out]; omega)⟩))
            case measure => simp [intOf]
          · obtain ⟨h1, h2⟩ := yes_bit hb
            have HZ : Hid (bitI f 512 = 1 ∧ hasBit f 512 = true) := ⟨h2, hb⟩
            clear hb h2
            go_wp2
            go_round
            case rel => exact .inr (.inr (.inl ⟨rfl, ival (by unfold saOf; rw [HZ.out.2, if_pos rfl, HX.out]), rfl, ival (by rw [HZ.out.1]; have := HX.out; omega)⟩))
            case measure => simp [intOf]
        ·
          obtain ⟨x, HX, hx0, hx1⟩ : ∃ x : Int, Hid (x = 4 * (bitI f 256 + bitI f 512)) ∧ 0 ≤ x ∧ x ≤ 12 := ⟨_, rfl, by have := bitI_bd f 256; have := bitI_bd f 512; have := bitI_bd f 1024; omega, by have := bitI_bd f 256; have := bitI_bd f 512; have := bitI_bd f 1024; omega⟩
          rw [show 4 * (bitI f 256 + bitI f 512) = x from HX.out.symm]
          cases hb : hasBit f 1024
          · obtain ⟨h1, h2⟩ := no_bit hb
            have HZ : Hid (bitI f 1024 = 0 ∧ hasBit f 1024 = false) := ⟨h2, hb⟩
            clear hb h2
            go_wp2
            go_round
            case rel => exact .inr (.inr (.inr (.inl ⟨rfl, rfl, ival (by unfold faOf; rw [HZ.out.2]; rfl), ival (by rw [HZ.out.1, HX.out]; omega)⟩)))
            case measure => simp [intOf]
          · obtain ⟨h1, h2⟩ := yes_bit hb
            have HZ : Hid (bitI f 1024 = 1 ∧ hasBit f 1024 = true) := ⟨h2, hb⟩
            clear hb h2
            go_wp2
            go_round
            case rel => exact .inr (.inr (.inr (.inl ⟨rfl, rfl, ival (by unfold faOf; rw [HZ.out.2, if_pos rfl, HX.out]), ival (by rw [HZ.out.1]; have := HX.out; omega)⟩)))
            case measure => simp [intOf]
        ·
          obtain ⟨x, HX, hx0, hx1⟩ : ∃ x : Int, Hid (x = 4 * (bitI f 256 + bitI f 512 + bitI f 1024)) ∧ 0 ≤ x ∧ x ≤ 12 := ⟨_, rfl, by have := bitI_bd f 256; have := bitI_bd f 512; have := bitI_bd f 1024; omega, by have := bitI_bd f 256; have := bitI_bd f 512; have := bitI_bd f 1024; omega⟩
          rw [show 4 * (bitI f 256 + bitI f 512 + bitI f 1024) = x from HX.out.symm]
          cases hb : hasBit f 2048
          · obtain ⟨h1, h2⟩ := no_bit hb
            have HZ : Hid (bitI f 2048 = 0 ∧ hasBit f 2048 = false) := ⟨h2, hb⟩
            clear hb h2
            go_wp2
            go_round
            case rel => exact .inr (.inr (.inr (.inr ⟨rfl, rfl, rfl, ival (by unfold wdOf; rw [HZ.out.1, HX.out]; omega)⟩)))
            case measure => simp [intOf]
          · obtain ⟨h1, h2⟩ := yes_bit hb
            have HZ : Hid (bitI f 2048 = 1 ∧ hasBit f 2048 = true) := ⟨h2, hb⟩
            clear hb h2
            go_wp2
            go_round
            case rel => exact .inr (.inr (.inr (.inr ⟨rfl, rfl, rfl, ival (by unfold wdOf; rw [HZ.out.1]; have := HX.out; omega)⟩)))
            case measure => simp [intOf]
        · go_wp2
          go_meet
          exact ⟨ival HW.out.2.1.symm, ival HW.out.2.2.symm, ival HW.out.1.symm, HB0.out _⟩
    case rest =>
      obtain ⟨rfl, rfl, rfl, hB1⟩ := hcut
      have HB : Hid (Below wB.heap.size wB wc) := hB1
      refine hKB _ _ ?_
      have hsame : ∀ {j : Nat} {o : Obj}, wB.heap[j]? = some o → wc.heap[j]? = some o := fun {j o} h => (HB.out.block j (lt_of_block h)).trans h
      exact rt_26 N fb mb rb tb sb P len kb gb fi Q o lE cn e0 bd en pE B a far left sz fl x wd sa fa t0 t1 t2 t3 st hs hf b post w0 _ _ _ _ _ _ _ _ _ _ _ _ _ _ _ _ _ _ _ _ _ _ _ _ _ _ _ _ _ _ _ _ _ _ _ _ _ _ _ _ _ _ _ _ _ _ _ _ _ _ _ _ _ _ _ _ _ _ _ _ _ _ _ _ _ _ _ _ _ _ _ _ _ _ _ _ _ _ _ _ _ _ _ _ _ _ _ _ _ _ _ _ _ _ _ _ _ _ _ _ _ _ _ _ _ _ _ _ _ _ _ _ _ _ _ _ _ _ _ _ _ _ _ _ _ _ _ _ _ _ _ _ _ _ _ _ _ _ _ _ _ _ _ _ _ _ _ _ _ _ _ _ _ _ _ _ _ _ _ _ _ _ _ _ _ _ _ _ _ _ _ _ _ _ _ _ _ _ _ _ _ _ _ _ _ _ _ _ _ _ _ _ _ _ _ _ _ _ _ _ _ _ _ _ _ _ _ _ _ _ _ _ _ _ _ _ _ _ _ _ _ _ _ _ _ _ _ _ _ _ (HAll.out.1.step HB.out) (HAll.out.2.1.trans (HB.out.mono (Nat.le_of_lt (Nat.lt_of_le_of_lt hN (lt_of_block HAll.out.1.sbh))))) hN hQs (hsame HAll.out.2.2.1) (hsame HAll.out.2.2.2.1) (hsame HAll.out.2.2.2.2.1)
        HNum.out.1 hen hlen HNum.out.2.1 hcn hl hsz0 hsz1 ha0 ha1 hf0 hf1 hsa1 hw0 hw1 HE.out.1 (fun h1 h2 i hi => (HB.out.cell (lt_of_cell (HE.out.2.1 h1 h2 i hi))).trans (HE.out.2.1 h1 h2 i hi)) HE.out.2.2 HP.out HO.out.1 HO.out.2 ((HB.out.cell (lt_of_cell HAll.out.2.2.2.2.2)).trans HAll.out.2.2.2.2.2) HNum.out.2.2 hleft hleft1 hNm hQm
end Go.Proofs.Qxb6613648aFmt

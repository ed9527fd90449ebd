/-
  readTrun: the head of the run.
-/
import Derived.Test.Qxb6613648aFmtRLay
namespace Go.Proofs.Qxb6613648aFmt
open Go.RowKit
set_option linter.unusedVariables false
set_option linter.unusedSimpArgs false
attribute [local go_sem] setCell_drewN alloc_drewN

/-- All old blocks but gb are as they were. -/
structure Oth (gb : Nat) (w w' : World) : Prop where
  same : ∀ k, k < w.heap.size → k ≠ gb → w'.heap[k]? = w.heap[k]?
  size : w.heap.size ≤ w'.heap.size
  below : ∀ N, N ≤ gb → N ≤ w.heap.size → Below N w w'

theorem RT.oth {w w' : World} {fb mb rb tb sb P len gb : Nat} {far left : Int} {B : Nat → Int} {truns : Value} {cnt : Int} (h : RT w fb mb rb tb sb P len far left B truns cnt) (ho : Oth gb w w') {c : Array Value} {t : TypeId} {fz : Nat × Nat} (hg : w.heap[gb]? = some (.cells c t fz)) (ht : t ≠ 107 ∧ t ≠ 103 ∧ t ≠ 141 ∧ t ≠ 119 ∧ t ≠ 128 ∧ t ≠ 5) : RT w' fb mb rb tb sb P len far left B truns cnt := by
  obtain ⟨Fc, f1, f2⟩ := h.fbh
  obtain ⟨mv, m1⟩ := h.mbh
  have key : ∀ {k : Nat} {c' : Array Value} {t' : TypeId} {f' : Nat × Nat}, w.heap[k]? = some (.cells c' t' f') → t ≠ t' → w'.heap[k]? = some (.cells c' t' f') := fun {k c' t' f'} hk hne => by
    refine (ho.same k (lt_of_block hk) ?_).trans hk
    rintro rfl
    rw [hg] at hk
    simp only [Option.some.injEq, Obj.cells.injEq] at hk
    exact hne hk.2.1
  obtain ⟨h1, h2, h3, h4, h5, h6⟩ := ht
  refine ⟨⟨Fc, key f1 h1, f2⟩, ⟨mv, key m1 h2⟩, key h.rbh h3, key h.tbh h4, key h.sbh h5, ?_⟩
  obtain ⟨cur, r1, r2⟩ := h.row
  exact ⟨cur, key r1 h6, r2⟩

theorem cells_ne {w : World} {j k : Nat} {c c' : Array Value} {t t' : TypeId} {f f' : Nat × Nat} (h : w.heap[j]? = some (.cells c t f)) (h' : w.heap[k]? = some (.cells c' t' f')) (ht : t ≠ t') : j ≠ k := by
  rintro rfl
  rw [h] at h'
  simp only [Option.some.injEq, Obj.cells.injEq] at h'
  exact ht h'.2.1

set_option maxRecDepth 100000 in
set_option maxHeartbeats 1000000 in
theorem fr_u32 (gb Q n o l bd en : Nat) (t0 t1 t2 t3 st : Int) (B : Nat → Int) (w : World) (hg : w.heap[gb]? = some (.cells #[.int .u8 t0, .int .u8 t1, .int .u8 t2, .int .u8 t3, .int .i64 st, .int .i64 bd, .int .i64 en, .slice (some ⟨Q, o, none⟩) l l, .nilIface] 145 (0, 0))) (hrow : Row w Q n B) (hB : Byte B) (hl : 4 ≤ l) (hl2 : l ≤ 1048576) (ho : o + l ≤ n) :
    Calls Tryf.prog 53 #[.pointer (some ⟨gb, 0, none⟩)] w fun e w' => e = .returned (.int .u32 (be B o)) ∧ ∃ p, (0 < l - 4 → p = ⟨Q, o + 4, none⟩) ∧ w'.heap[gb]? = some (.cells #[.int .u8 t0, .int .u8 t1, .int .u8 t2, .int .u8 t3, .int .i64 st, .int .i64 bd, .int .i64 en, .slice (some p) (l - 4) (l - 4), .nilIface] 145 (0, 0)) ∧ Oth gb w w' := by
  obtain ⟨cur, r1, r2, r3⟩ := hrow
  have hne : gb ≠ Q := cells_ne hg r1 (by decide)
  refine (fu32_any gb Q o l (fun i => B (o + i)) (be B o) w rfl (by simp [World.cell?, hg]) (by simp [World.cell?, hg]) (by simp [World.frozen?, hg]) hl hl2 hne (fun i hi => ?_) (fun i => hB (o + i))).mono ?_
  · simp [World.cell?, r1, r3 (o + i) (by omega)]
  · rintro e w' ⟨rfl, p, m, hp, rfl⟩
    refine ⟨rfl, p, fun h => hp (by omega), ?_, ?_⟩
    · show ((w.setCell ⟨gb, 7, none⟩ (.slice (some p) (l - 4) (l - 4))).alloc (.cells #[] 163)).heap[gb]? = _
      rw [Below.heap_alloc _ _ _ (by simp [World.setCell]; exact lt_of_block hg)]
      simp only [World.setCell, Array.getElem?_modify, hg]
      simp
    · have hs : (w.setCell ⟨gb, 7, none⟩ (.slice (some p) (l - 4) (l - 4))).heap.size = w.heap.size := by simp [World.setCell]
      refine ⟨fun k hk hk2 => ?_, ?_, fun N hN hN2 => ?_⟩
      · show ((w.setCell ⟨gb, 7, none⟩ (.slice (some p) (l - 4) (l - 4))).alloc (.cells #[] 163)).heap[k]? = _
        rw [Below.heap_alloc _ _ _ (by omega), Below.heap_setCell _ _ _ _ hk2]
      · show _ ≤ ((w.setCell ⟨gb, 7, none⟩ (.slice (some p) (l - 4) (l - 4))).alloc (.cells #[] 163)).heap.size
        simp [hs]
      · exact below_drewN (((Below.refl N w).setCell hN _).alloc (by omega) _) m

theorem set_first {w : World} {k : Nat} {a b c d x y : Value} (h : w.heap[k]? = some (.cells #[a, b, c, d] 109 (0, 0))) : ((w.setCell ⟨k, 1, none⟩ x).setCell ⟨k, 3, none⟩ y).heap[k]? = some (.cells #[a, x, c, y] 109 (0, 0)) := by
  simp only [World.setCell, Array.getElem?_modify, h]
  simp

theorem saOf_bd (f : Int) : saOf f ≤ 16 ∧ 0 ≤ wdOf f ∧ wdOf f ≤ 16 ∧ (0 ≤ saOf f → saOf f + 4 ≤ wdOf f) := by
  have h1 := bitI_bd f 256; have h2 := bitI_bd f 512; have h3 := bitI_bd f 1024; have h4 := bitI_bd f 2048
  unfold saOf wdOf
  split
  · rename_i h
    have : bitI f 512 = 1 := by unfold bitI; rw [h]; rfl
    omega
  · omega

theorem in_room {cn l : Nat} {wd sa : Int} (hw : 0 ≤ wd) (h : (cn : Int) * wd ≤ l) (hs : sa + 4 ≤ wd) (j : Nat) (hj : j < cn) : (j : Int) * wd + sa + 4 ≤ l := by
  have h1 : ((j : Int) + 1) * wd ≤ (cn : Int) * wd := Int.mul_le_mul_of_nonneg_right (by omega) hw
  rw [Int.add_mul] at h1
  omega

set_option maxRecDepth 1000000 in
set_option maxHeartbeats 4000000 in
theorem rt_9 (N fb mb rb tb sb P len kb gb Q o1 l1 cn bd en : Nat) (p1 : Addr) (B : Nat → Int) (f a far left sz fl t0 t1 t2 t3 st : Int) (hs hf : Bool) (post : Ending → World → Prop) (w0 wA : World) (u1 u3 u4 u5 u6 u8 u10 u11 u12 u13 u14 u16 u17 u21 u22 u23 u24 u25 u26 u27 u28 u29 u30 u31 u32 u33 u34 u35 u36 u37 u38 u39 u40 u41 u42 u43 u44 u45 u46 u47 u48 u49 u50 u51 u52 u53 u54 u55 u56 u57 u58 u59 u60 u61 u62 u63 u64 u65 u66 u67 u68 u69 u70 u71 u72 u73 u74 u75 u76 u77 u78 u79 u80 u81 u82 u83 u84 u85 u86 u87 u88 u89 u90 u91 u92 u93 u94 u95 u96 u97 u98 u99 u100 u101 u102 u103 u104 u105 u106 u107 u108 u109 u110 u111 u112 u113 u114 u115 u116 u117 u118 u119 u120 u121 u122 u123 u124 u125 u126 u127 u128 u129 u130 u131 u132 u133 u134 u135 u136 u137 u138 u139 u140 u141 u142 u143 u144 u145 u146 u147 u148 u149 u150 u151 u152 u153 u154 u155 u156 u157 u158 u159 u160 u161 u162 u163 u164 u165 u166 u167 u168 u169 u170 u171 u172 u173 u174 u175 u176 u177 u178 u179 u180 u181 u182 u183 u184 u185 u186 u187 u188 u189 u190 u191 u192 u193 u194 u195 u196 u197 u198 u199 u200 u201 u202 u203 u204 u205 u206 u207 u208 u209 u210 u211 u212 u213 u214 u215 u216 u217 u218 u219 u220 u221 u222 u223 u224 u225 u226 u227 u228 u229 u230 u231 u232 u233 u234 u235 u236 u237 u238 u239 : Value)
    (hRT : RT wA fb mb rb tb sb P len far left B (.slice none 0 0) 0) (hbl : Below N w0 wA) (hN : N ≤ sb) (hNm : N ≤ mb)
    (hbox : wA.heap[kb]? = some (.cells #[.int .u8 t0, .int .u8 t1, .int .u8 t2, .int .u8 t3, .int .i64 st, .int .i64 bd, .int .i64 en] 114 (0, 0))) (hdf : wA.heap[kb + 1]? = some (.cells #[.int .u32 sz, .int .u32 fl, .bool hs, .bool hf] 109 (0, 0)))
    (hrow : Row wA Q (en - bd) (fun i => B (bd + i))) (hbe : bd ≤ en) (hen : en ≤ len) (hlen : len ≤ 1048576) (hB : Byte B) (hcn : cn ≤ 65536) (hsz0 : 0 ≤ sz) (hsz1 : sz ≤ 4294967295) (hf0 : 0 ≤ far) (hf1 : far ≤ 4611686018427387904) (hleft : (cn : Int) ≤ left) (hleft1 : left ≤ 65536)
    (hfr : wA.heap[gb]? = some (.cells #[.int .u8 t0, .int .u8 t1, .int .u8 t2, .int .u8 t3, .int .i64 st, .int .i64 bd, .int .i64 en, .slice (some p1) l1 l1, .nilIface] 145 (0, 0))) (hNg : N ≤ gb) (hp1 : 0 < l1 → p1 = ⟨Q, o1, none⟩) (ho1 : o1 + l1 = en - bd) (hl4 : hasBit f 4 = true → 4 ≤ l1) (ha0 : -2147483648 ≤ a) (ha1 : a ≤ 4611686020574871552)
    (hroom : (cn : Int) * wdOf f ≤ l1 - 4 * bitI f 4) (hone : 1 ≤ cn → (hs = true ∨ 0 ≤ saOf f) ∧ ((hasBit f 4 || hf) = true ∨ 0 ≤ faOf f)) (htwo : 2 ≤ cn → (hs = true ∨ 0 ≤ saOf f) ∧ (hf = true ∨ 0 ≤ faOf f))
    (hpost : ∀ w' qb cp (e0 : Nat), (e0 : Int) = bd + o1 + 4 * bitI f 4 → RT w' fb mb rb tb sb P len far (left - cn) B (.slice (some ⟨qb, 0, none⟩) 1 cp) cn → TrunAt w' qb #[.int .i64 a, .int .i64 e0, .int .i64 cn, .int .i64 (wdOf f), .int .i64 (saOf f), .int .i64 (faOf f), .int .u32 sz, .int .u32 (if hasBit f 4 then be B (bd + o1) else fl), .bool hs, .bool (hasBit f 4 || hf), .int .u32 sz, .int .u32 fl, .bool hs, .bool hf] → Below N w0 w' → post (.returned (.tuple #[.int .i64 (offAt far a (szOf B e0 (wdOf f) (saOf f) sz) cn), .nilIface])) w') :
    Code.wp Tryf.prog ((Tryf.f50.body.bind (fromReg 9)).getD .skip) (bodyPost Tryf.prog Tryf.f50 post) ⟨#[.pointer (some ⟨fb, 0, none⟩), u1, .pointer (some ⟨tb, 0, none⟩), u3, u4, u5, u6, .pointer (some ⟨kb, 0, none⟩), u8, .pointer (some ⟨kb + 1, 0, none⟩), u10, u11, u12, u13, u14, .int .u32 f, u16, u17, .pointer (some ⟨gb, 0, none⟩), .int .u32 cn, .int .i64 a, u21, u22, u23, u24, u25, u26, u27, u28, u29, u30, u31, u32, u33, u34, u35, u36, u37, u38, u39, u40, u41, u42, u43, u44, u45, u46, u47, u48, u49, u50, u51, u52, u53, u54, u55, u56, u57, u58, u59, u60, u61, u62, u63, u64, u65, u66, u67, u68, u69, u70, u71, u72, u73, u74, u75, u76, u77, u78, u79, u80, u81, u82, u83, u84, u85, u86, u87, u88, u89, u90, u91, u92, u93, u94, u95, u96, u97, u98, u99, u100, u101, u102, u103, u104, u105, u106, u107, u108, u109, u110, u111, u112, u113, u114, u115, u116, u117, u118, u119, u120, u121, u122, u123, u124, u125, u126, u127, u128, u129, u130, u131, u132, u133, u134, u135, u136, u137, u138, u139, u140, u141, u142, u143, u144, u145, u146, u147, u148, u149, u150, u151, u152, u153, u154, u155, u156, u157, u158, u159, u160, u161, u162, u163, u164, u165, u166, u167, u168, u169, u170, u171, u172, u173, u174, u175, u176, u177, u178, u179, u180, u181, u182, u183, u184, u185, u186, u187, u188, u189, u190, u191, u192, u193, u194, u195, u196, u197, u198, u199, u200, u201, u202, u203, u204, u205, u206, u207, u208, u209, u210, u211, u212, u213, u214, u215, u216, u217, u218, u219, u220, u221, u222, u223, u224, u225, u226, u227, u228, u229, u230, u231, u232, u233, u234, u235, u236, u237, u238, u239], []⟩ wA := by
  have HAll : Hid (RT wA fb mb rb tb sb P len far left B (.slice none 0 0) 0 ∧ Below N w0 wA ∧ wA.heap[kb]? = some (.cells #[.int .u8 t0, .int .u8 t1, .int .u8 t2, .int .u8 t3, .int .i64 st, .int .i64 bd, .int .i64 en] 114 (0, 0)) ∧ wA.heap[kb + 1]? = some (.cells #[.int .u32 sz, .int .u32 fl, .bool hs, .bool hf] 109 (0, 0)) ∧ wA.heap[gb]? = some (.cells #[.int .u8 t0, .int .u8 t1, .int .u8 t2, .int .u8 t3, .int .i64 st, .int .i64 bd, .int .i64 en, .slice (some p1) l1 l1, .nilIface] 145 (0, 0)) ∧ Row wA Q (en - bd) (fun i => B (bd + i)) ∧ Byte B) := ⟨hRT, hbl, hbox, hdf, hfr, hrow, hB⟩
  have HNum : Hid ((0 < l1 → p1 = ⟨Q, o1, none⟩) ∧ o1 + l1 = en - bd ∧ (hasBit f 4 = true → 4 ≤ l1) ∧ (cn : Int) * wdOf f ≤ l1 - 4 * bitI f 4) := ⟨hp1, ho1, hl4, hroom⟩
  have HO : Hid ((1 ≤ cn → (hs = true ∨ 0 ≤ saOf f) ∧ ((hasBit f 4 || hf) = true ∨ 0 ≤ faOf f)) ∧ (2 ≤ cn → (hs = true ∨ 0 ≤ saOf f) ∧ (hf = true ∨ 0 ≤ faOf f))) := ⟨hone, htwo⟩
  have HP : Hid (∀ w' qb cp (e0 : Nat), (e0 : Int) = bd + o1 + 4 * bitI f 4 → RT w' fb mb rb tb sb P len far (left - cn) B (.slice (some ⟨qb, 0, none⟩) 1 cp) cn → TrunAt w' qb #[.int .i64 a, .int .i64 e0, .int .i64 cn, .int .i64 (wdOf f), .int .i64 (saOf f), .int .i64 (faOf f), .int .u32 sz, .int .u32 (if hasBit f 4 then be B (bd + o1) else fl), .bool hs, .bool (hasBit f 4 || hf), .int .u32 sz, .int .u32 fl, .bool hs, .bool hf] → Below N w0 w' → post (.returned (.tuple #[.int .i64 (offAt far a (szOf B e0 (wdOf f) (saOf f) sz) cn), .nilIface])) w') := hpost
  have cD : ∀ i, wA.cell? ⟨kb + 1, i, none⟩ = (#[.int .u32 sz, .int .u32 fl, .bool hs, .bool hf] : Array Value)[i]? := by intro i; simp [World.cell?, hdf]
  have hNA : N ≤ wA.heap.size := Nat.le_trans hN (Nat.le_of_lt (lt_of_block hRT.sbh))
  have HA1 : Hid (Below wA.heap.size wA (wA.alloc (.cells #[.int .u32 sz, .int .u32 fl, .bool hs, .bool hf] 109)) ∧ (wA.alloc (.cells #[.int .u32 sz, .int .u32 fl, .bool hs, .bool hf] 109)).heap[wA.heap.size]? = some (.cells #[.int .u32 sz, .int .u32 fl, .bool hs, .bool hf] 109 (0, 0))) := ⟨(Below.refl _ _).alloc (Nat.le_refl _) _, by show (wA.heap.push _)[wA.heap.size]? = _; simp⟩
  have lG : gb < wA.heap.size := lt_of_block hfr
  have lD : kb + 1 < wA.heap.size := lt_of_block hdf
  clear hRT hbl hbox hdf hfr hrow hB hp1 ho1 hl4 hroom hone htwo hpost
  conv => arg 2; whnf
  go_upto_if 69 with fail
  go_cut [] (fun wx => Hid (∃ (p2 : Addr) (o2 l2 : Nat), wx.heap[wA.heap.size]? = some (.cells #[.int .u32 sz, .int .u32 (if hasBit f 4 then be B (bd + o1) else fl), .bool hs, .bool (hasBit f 4 || hf)] 109 (0, 0)) ∧ wx.heap[gb]? = some (.cells #[.int .u8 t0, .int .u8 t1, .int .u8 t2, .int .u8 t3, .int .i64 st, .int .i64 bd, .int .i64 en, .slice (some p2) l2 l2, .nilIface] 145 (0, 0)) ∧ (0 < l2 → p2 = ⟨Q, o2, none⟩) ∧ o2 + l2 = en - bd ∧ (o2 : Int) = o1 + 4 * bitI f 4 ∧ Oth gb wA wx))
  case first =>
    cases c4 : (bits .and .u32 f 4 != 0)
    · have h4 : hasBit f 4 = false := c4
      have HZ : Hid (hasBit f 4 = false ∧ bitI f 4 = 0) := ⟨h4, (no_bit h4).2⟩
      clear h4
      go_wp2
      go_meet
      refine ⟨p1, o1, l1, ?_, ?_, HNum.out.1, HNum.out.2.1, by rw [HZ.out.2]; omega, ⟨fun k hk _ => HA1.out.1.block k hk, HA1.out.1.size, fun M _ h => HA1.out.1.mono h⟩⟩
      · rw [HZ.out.1]; exact HA1.out.2
      · exact (HA1.out.1.block gb lG).trans HAll.out.2.2.2.2.1
    · have h4 : hasBit f 4 = true := c4
      have HZ : Hid (hasBit f 4 = true ∧ bitI f 4 = 1) := ⟨h4, (yes_bit h4).2⟩
      have hl4 := HNum.out.2.2.1 h4
      obtain rfl := HNum.out.1 (by omega)
      have hl2 : l1 ≤ 1048576 := by have := HNum.out.2.1; omega
      clear h4
      go_wp2_with fail
      refine (fr_u32 gb Q (en - bd) o1 l1 bd en t0 t1 t2 t3 st (fun i => B (bd + i)) _ ((HA1.out.1.block gb lG).trans HAll.out.2.2.2.2.1) (HAll.out.2.2.2.2.2.1.below HA1.out.1 HAll.out.2.2.2.2.2.1.lt) (fun i => HAll.out.2.2.2.2.2.2 (bd + i)) hl4 hl2 (by have := HNum.out.2.1; omega)).mono ?_
      rintro e w2 ⟨rfl, p2, hp2, hg2, ho2⟩
      have H2 : Hid ((0 < l1 - 4 → p2 = ⟨Q, o1 + 4, none⟩) ∧ w2.heap[gb]? = some (.cells #[.int .u8 t0, .int .u8 t1, .int .u8 t2, .int .u8 t3, .int .i64 st, .int .i64 bd, .int .i64 en, .slice (some p2) (l1 - 4) (l1 - 4), .nilIface] 145 (0, 0)) ∧ Oth gb (wA.alloc (.cells #[.int .u32 sz, .int .u32 fl, .bool hs, .bool hf] 109)) w2) := ⟨hp2, hg2, ho2⟩
      have hF : w2.heap[wA.heap.size]? = some (.cells #[.int .u32 sz, .int .u32 fl, .bool hs, .bool hf] 109 (0, 0)) := (ho2.same _ (by simp) (by omega)).trans HA1.out.2
      have HF : Hid (w2.heap[wA.heap.size]? = some (.cells #[.int .u32 sz, .int .u32 fl, .bool hs, .bool hf] 109 (0, 0))) := hF
      have cF : ∀ i, w2.cell? ⟨wA.heap.size, i, none⟩ = (#[.int .u32 sz, .int .u32 fl, .bool hs, .bool hf] : Array Value)[i]? := by intro i; simp [World.cell?, hF]
      have fF : ∀ i, w2.frozen? ⟨wA.heap.size, i, none⟩ = false := by intro i; simp [World.frozen?, hF]
      obtain ⟨x, hx⟩ : ∃ x, x = be (fun i => B (bd + i)) o1 := ⟨_, rfl⟩
      rw [← hx]
      have HX : Hid (x = be B (bd + o1)) := hx
      clear hx hp2 hg2 ho2 hF
      go_wp2
      go_meet
      refine ⟨p2, o1 + 4, l1 - 4, ?_, ?_, H2.out.1, by have := HNum.out.2.1; omega, by rw [HZ.out.2]; omega, ⟨fun k hk hk2 => ?_, ?_, fun M hM hM2 => ?_⟩⟩
      · rw [HZ.out.1, ← HX.out]
        exact set_first HF.out
      · have hne : gb ≠ wA.heap.size := by omega
        rw [Below.heap_setCell _ _ _ _ hne, Below.heap_setCell _ _ _ _ hne]
        exact H2.out.2.1
      · have hne : k ≠ wA.heap.size := by omega
        rw [Below.heap_setCell _ _ _ _ hne, Below.heap_setCell _ _ _ _ hne]
        exact (H2.out.2.2.same k (by simp; omega) hk2).trans (HA1.out.1.block k hk)
      · have h1 := H2.out.2.2.size
        have h2 := HA1.out.1.size
        simp only [World.setCell, Array.size_modify]
        omega
      · exact (((HA1.out.1.mono hM2).trans (H2.out.2.2.below M hM (by simp; omega))).setCell hM2 _).setCell hM2 _
  case rest =>
    rename_i KB hKB
    have HC : Hid (∃ (p2 : Addr) (o2 l2 : Nat), wc.heap[wA.heap.size]? = some (.cells #[.int .u32 sz, .int .u32 (if hasBit f 4 then be B (bd + o1) else fl), .bool hs, .bool (hasBit f 4 || hf)] 109 (0, 0)) ∧ wc.heap[gb]? = some (.cells #[.int .u8 t0, .int .u8 t1, .int .u8 t2, .int .u8 t3, .int .i64 st, .int .i64 bd, .int .i64 en, .slice (some p2) l2 l2, .nilIface] 145 (0, 0)) ∧ (0 < l2 → p2 = ⟨Q, o2, none⟩) ∧ o2 + l2 = en - bd ∧ (o2 : Int) = o1 + 4 * bitI f 4 ∧ Oth gb wA wc) := hcut
    obtain ⟨w1, hw1⟩ : ∃ w1, w1 = wc := ⟨_, rfl⟩
    subst hw1
    obtain ⟨p2, o2, l2, q1, q2, q3, q4, q5, q6⟩ := HC.out
    have HQ : Hid (w1.heap[wA.heap.size]? = some (.cells #[.int .u32 sz, .int .u32 (if hasBit f 4 then be B (bd + o1) else fl), .bool hs, .bool (hasBit f 4 || hf)] 109 (0, 0)) ∧ w1.heap[gb]? = some (.cells #[.int .u8 t0, .int .u8 t1, .int .u8 t2, .int .u8 t3, .int .i64 st, .int .i64 bd, .int .i64 en, .slice (some p2) l2 l2, .nilIface] 145 (0, 0)) ∧ (0 < l2 → p2 = ⟨Q, o2, none⟩) ∧ o2 + l2 = en - bd ∧ (o2 : Int) = o1 + 4 * bitI f 4 ∧ Oth gb wA w1) := ⟨q1, q2, q3, q4, q5, q6⟩
    have g8 : w1.cell? ⟨gb, 8, none⟩ = some .nilIface := by simp [World.cell?, q2]
    clear q1 q2 q3 q4 q5 q6 HC hcut cD
    refine hKB _ _ ?_
    go_upto_region 12 with fail
    go_cut [75] (fun s wx => s = .bool false ∧ wx = w1)
    case first =>
      go_wp2
      go_meet
      exact ⟨rfl, rfl⟩
    case rest =>
      rename_i KA2 hKA2 KB2 hKB2
      obtain ⟨rfl, rfl⟩ := hcut
      refine hKB2 _ _ (wp_cond_false rfl (wp_skip (hKA2 _ _ ?_)))
      obtain ⟨q1, q2, q3, q4, q5, q6⟩ := HQ.out
      obtain ⟨hRT, hbl, hbox, hdf, hfr, hrow, hB⟩ := HAll.out
      obtain ⟨mv, hmb⟩ := hRT.mbh
      obtain ⟨cur, r1, r2, r3⟩ := hrow
      have sd := saOf_bd f
      have hrm := HNum.out.2.2.2
      have hrow1 : wc.heap[Q]? = some (.cells cur 5 (0, 0)) := (q6.same Q (lt_of_block r1) (cells_ne r1 hfr (by decide))).trans r1
      have hl2 : (l2 : Int) = l1 - 4 * bitI f 4 := by have := HNum.out.2.1; omega
      have he0 : (en : Int) - l2 = ((bd + o2 : Nat) : Int) := by omega
      exact rt_14 N fb mb rb tb sb P len kb gb wA.heap.size Q o2 l2 cn (bd + o2) bd en p2 B f a far left sz fl (if hasBit f 4 then be B (bd + o1) else fl) (wdOf f) (saOf f) (faOf f) t0 t1 t2 t3 st hs hf (hasBit f 4 || hf) post w0 _ _ _ _ _ _ _ _ _ _ _ _ _ _ _ _ _ _ _ _ _ _ _ _ _ _ _ _ _ _ _ _ _ _ _ _ _ _ _ _ _ _ _ _ _ _ _ _ _ _ _ _ _ _ _ _ _ _ _ _ _ _ _ _ _ _ _ _ _ _ _ _ _ _ _ _ _ _ _ _ _ _ _ _ _ _ _ _ _ _ _ _ _ _ _ _ _ _ _ _ _ _ _ _ _ _ _ _ _ _ _ _ _ _ _ _ _ _ _ _ _ _ _ _ _ _ _ _ _ _ _ _ _ _ _ _ _ _ _ _ _ _ _ _ _ _ _ _ _ _ _ _ _ _ _ _ _ _ _ _ _ _ _ _ _ _ _ _ _ _ _ _ _ _ _ _ _ _ _ _ _ _ _ _ _ _ _ _ _ _ _ _ _ _ _ _ _ _ _ _ _ _ _ _ _ _ _ _ _ _ _ _ _ _ _ _ _ _ _ _ _ _ _ _ _ _ _ _ _ _ _ _ (hRT.oth q6 hfr (by decide)) (hbl.trans (q6.below N hNg hNA)) hN (cells_ne r1 hRT.sbh (by decide)) ((q6.same kb (lt_of_block hbox) (cells_ne hbox hfr (by decide))).trans hbox) ((q6.same (kb + 1) (lt_of_block hdf) (cells_ne hdf hfr (by decide))).trans hdf) q1
        he0 hen hlen hB hcn (by omega) hsz0 hsz1 ha0 ha1 hf0 hf1 sd.1 sd.2.1 sd.2.2.1 (fun h1 h2 => q3 (by have := in_room sd.2.1 (hl2 ▸ hrm) (sd.2.2.2 h1) 0 h2; omega)) (fun h1 h2 i hi => by
          simp only [World.cell?, hrow1]
          have := r3 (o2 + i) (by omega)
          rw [show bd + o2 + i = bd + (o2 + i) by omega]
          simpa using this) (fun h1 j hj => in_room sd.2.1 (hl2 ▸ hrm) (sd.2.2.2 h1) j hj) (fun w' qb cp g1 g2 g3 => HP.out w' qb cp (bd + o2) (by omega) g1 g2 g3) HO.out.1 HO.out.2 (by simp [World.cell?, q2]) (hl2 ▸ hrm) hleft hleft1 hNm (cells_ne r1 hmb (by decide)) rfl rfl rfl
end Go.Proofs.Qxb6613648aFmt

/-
  readTrun: the table, the count declared.
-/
import Derived.Test.Qxb6613648aFmtRChk
namespace Go.Proofs.Qxb6613648aFmt
open Go.RowKit
set_option linter.unusedVariables false
set_option linter.unusedSimpArgs false
attribute [local go_sem] setCell_drewN alloc_drewN

/-- What is left is set. -/
theorem RT.put_left {w : World} {fb mb rb tb sb P len : Nat} {far left : Int} {B : Nat → Int} {truns : Value} {cnt : Int} (h : RT w fb mb rb tb sb P len far left B truns cnt) (left' : Int) :
    RT (w.setCell ⟨mb, 5, none⟩ (.int .u64 left')) fb mb rb tb sb P len far left' B truns cnt := by
  obtain ⟨Fc, f1, f2⟩ := h.fbh
  obtain ⟨mv, m1⟩ := h.mbh
  have hne : ∀ k {o : Obj}, w.heap[k]? = some o → (∀ c f, o ≠ .cells c 103 f) → (w.setCell ⟨mb, 5, none⟩ (.int .u64 left')).heap[k]? = some o := fun k o hk ho => by
    have hk' : k ≠ mb := by
      intro e
      subst e
      rw [m1] at hk
      exact ho _ _ (Option.some.inj hk).symm
    exact (Below.heap_setCell _ _ _ _ hk').trans hk
  refine ⟨⟨Fc, hne _ f1 (by simp), f2⟩, ⟨mv, ?_⟩, hne _ h.rbh (by simp), hne _ h.tbh (by simp), hne _ h.sbh (by simp), ?_⟩
  · simp only [World.setCell, Array.getElem?_modify, m1]
    simp only [if_true, Option.map_some]
    rfl
  · obtain ⟨cur, r1, r2⟩ := h.row
    exact ⟨cur, hne _ r1 (by simp), r2⟩

set_option maxRecDepth 1000000 in
set_option maxHeartbeats 4000000 in
theorem rt_26 (N fb mb rb tb sb P len kb gb fi Q o lE cn e0 bd en : Nat) (pE : Addr) (B : Nat → Int) (a far left sz fl x wd sa fa t0 t1 t2 t3 st : Int) (hs hf b : Bool) (post : Ending → World → Prop) (w0 wA : World) (u1 u3 u4 u5 u6 u8 u10 u11 u12 u13 u14 u15 u16 u17 u25 u26 u27 u28 u29 u30 u31 u32 u33 u34 u35 u36 u37 u38 u39 u40 u41 u42 u43 u44 u45 u46 u47 u48 u49 u50 u51 u52 u53 u54 u55 u56 u57 u58 u59 u60 u61 u62 u63 u64 u65 u66 u67 u68 u69 u70 u71 u72 u73 u74 u75 u76 u77 u78 u79 u80 u81 u82 u83 u84 u85 u86 u87 u88 u89 u90 u91 u92 u93 u94 u95 u96 u97 u98 u99 u100 u101 u102 u103 u104 u105 u106 u107 u108 u109 u110 u111 u112 u113 u114 u115 u116 u117 u118 u119 u120 u121 u122 u123 u124 u125 u126 u127 u128 u129 u130 u131 u132 u133 u134 u135 u136 u137 u138 u139 u140 u141 u142 u143 u144 u145 u146 u147 u148 u149 u150 u151 u152 u153 u154 u155 u156 u157 u158 u159 u160 u161 u162 u163 u164 u165 u166 u167 u168 u169 u170 u171 u172 u173 u174 u175 u176 u177 u178 u179 u180 u181 u182 u183 u184 u185 u186 u187 u188 u189 u190 u191 u192 u193 u194 u195 u196 u197 u198 u199 u200 u201 u202 u203 u204 u205 u206 u207 u208 u209 u210 u211 u212 u213 u214 u215 u216 u217 u218 u219 u220 u221 u222 u223 u224 u225 u226 u227 u228 u229 u230 u231 u232 u233 u234 u235 u236 u237 u238 u239 : Value)
    (hRT : RT wA fb mb rb tb sb P len far left B (.slice none 0 0) 0) (hbl : Below N w0 wA) (hN : N ≤ sb) (hQs : Q ≠ sb)
    (hbox : wA.heap[kb]? = some (.cells #[.int .u8 t0, .int .u8 t1, .int .u8 t2, .int .u8 t3, .int .i64 st, .int .i64 bd, .int .i64 en] 114 (0, 0))) (hdf : wA.heap[kb + 1]? = some (.cells #[.int .u32 sz, .int .u32 fl, .bool hs, .bool hf] 109 (0, 0))) (hfi : wA.heap[fi]? = some (.cells #[.int .u32 sz, .int .u32 x, .bool hs, .bool b] 109 (0, 0)))
    (hent : (en : Int) - lE = e0) (hen : en ≤ len) (hlen : len ≤ 1048576)
    (hB : Byte B) (hcn : cn ≤ 65536) (hl : lE ≤ 1048576) (hsz0 : 0 ≤ sz) (hsz1 : sz ≤ 4294967295) (ha0 : -2147483648 ≤ a) (ha1 : a ≤ 4611686020574871552) (hf0 : 0 ≤ far) (hf1 : far ≤ 4611686018427387904)
    (hsa1 : sa ≤ 16) (hw0 : 0 ≤ wd) (hw1 : wd ≤ 16) (hpE : 0 ≤ sa → 0 < cn → pE = ⟨Q, o, none⟩) (hE : 0 ≤ sa → 0 < cn → Bytes wA Q o lE (fun i => B (e0 + i))) (hin : 0 ≤ sa → ∀ j : Nat, j < cn → (j : Int) * wd + sa + 4 ≤ lE)
    (hpost : ∀ w' qb cp, RT w' fb mb rb tb sb P len far (left - cn) B (.slice (some ⟨qb, 0, none⟩) 1 cp) cn → TrunAt w' qb #[.int .i64 a, .int .i64 e0, .int .i64 cn, .int .i64 wd, .int .i64 sa, .int .i64 fa, .int .u32 sz, .int .u32 x, .bool hs, .bool b, .int .u32 sz, .int .u32 fl, .bool hs, .bool hf] → Below N w0 w' → post (.returned (.tuple #[.int .i64 (offAt far a (szOf B e0 wd sa sz) cn), .nilIface])) w')
    (hone : 1 ≤ cn → (hs = true ∨ 0 ≤ sa) ∧ (b = true ∨ 0 ≤ fa)) (htwo : 2 ≤ cn → (hs = true ∨ 0 ≤ sa) ∧ (hf = true ∨ 0 ≤ fa)) (hgb : wA.cell? ⟨gb, 7, none⟩ = some (.slice (some pE) lE lE)) (hroom : (cn : Int) * wd ≤ lE) (hleft : (cn : Int) ≤ left) (hleft1 : left ≤ 65536) (hNm : N ≤ mb) (hQm : Q ≠ mb) :
    Code.wp Tryf.prog ((Tryf.f50.body.bind (fromReg 26)).getD .skip) (bodyPost Tryf.prog Tryf.f50 post) ⟨#[.pointer (some ⟨fb, 0, none⟩), u1, .pointer (some ⟨tb, 0, none⟩), u3, u4, u5, u6, .pointer (some ⟨kb, 0, none⟩), u8, .pointer (some ⟨kb + 1, 0, none⟩), u10, u11, u12, u13, u14, u15, u16, u17, .pointer (some ⟨gb, 0, none⟩), .int .u32 cn, .int .i64 a, .pointer (some ⟨fi, 0, none⟩), .int .i64 sa, .int .i64 fa, .int .i64 wd, u25, u26, u27, u28, u29, u30, u31, u32, u33, u34, u35, u36, u37, u38, u39, u40, u41, u42, u43, u44, u45, u46, u47, u48, u49, u50, u51, u52, u53, u54, u55, u56, u57, u58, u59, u60, u61, u62, u63, u64, u65, u66, u67, u68, u69, u70, u71, u72, u73, u74, u75, u76, u77, u78, u79, u80, u81, u82, u83, u84, u85, u86, u87, u88, u89, u90, u91, u92, u93, u94, u95, u96, u97, u98, u99, u100, u101, u102, u103, u104, u105, u106, u107, u108, u109, u110, u111, u112, u113, u114, u115, u116, u117, u118, u119, u120, u121, u122, u123, u124, u125, u126, u127, u128, u129, u130, u131, u132, u133, u134, u135, u136, u137, u138, u139, u140, u141, u142, u143, u144, u145, u146, u147, u148, u149, u150, u151, u152, u153, u154, u155, u156, u157, u158, u159, u160, u161, u162, u163, u164, u165, u166, u167, u168, u169, u170, u171, u172, u173, u174, u175, u176, u177, u178, u179, u180, u181, u182, u183, u184, u185, u186, u187, u188, u189, u190, u191, u192, u193, u194, u195, u196, u197, u198, u199, u200, u201, u202, u203, u204, u205, u206, u207, u208, u209, u210, u211, u212, u213, u214, u215, u216, u217, u218, u219, u220, u221, u222, u223, u224, u225, u226, u227, u228, u229, u230, u231, u232, u233, u234, u235, u236, u237, u238, u239], []⟩ wA := by
  have HAll : Hid (RT wA fb mb rb tb sb P len far left B (.slice none 0 0) 0 ∧ Below N w0 wA ∧ wA.heap[kb]? = some (.cells #[.int .u8 t0, .int .u8 t1, .int .u8 t2, .int .u8 t3, .int .i64 st, .int .i64 bd, .int .i64 en] 114 (0, 0)) ∧ wA.heap[kb + 1]? = some (.cells #[.int .u32 sz, .int .u32 fl, .bool hs, .bool hf] 109 (0, 0)) ∧ wA.heap[fi]? = some (.cells #[.int .u32 sz, .int .u32 x, .bool hs, .bool b] 109 (0, 0))) := ⟨hRT, hbl, hbox, hdf, hfi⟩
  have HNum : Hid ((en : Int) - lE = e0 ∧ Byte B) := ⟨hent, hB⟩
  have HE : Hid ((0 ≤ sa → 0 < cn → pE = ⟨Q, o, none⟩) ∧ (0 ≤ sa → 0 < cn → Bytes wA Q o lE (fun i => B (e0 + i))) ∧ (0 ≤ sa → ∀ j : Nat, j < cn → (j : Int) * wd + sa + 4 ≤ lE)) := ⟨hpE, hE, hin⟩
  have HP : Hid (∀ w' qb cp, RT w' fb mb rb tb sb P len far (left - cn) B (.slice (some ⟨qb, 0, none⟩) 1 cp) cn → TrunAt w' qb #[.int .i64 a, .int .i64 e0, .int .i64 cn, .int .i64 wd, .int .i64 sa, .int .i64 fa, .int .u32 sz, .int .u32 x, .bool hs, .bool b, .int .u32 sz, .int .u32 fl, .bool hs, .bool hf] → Below N w0 w' → post (.returned (.tuple #[.int .i64 (offAt far a (szOf B e0 wd sa sz) cn), .nilIface])) w') := hpost
  have HO : Hid ((1 ≤ cn → (hs = true ∨ 0 ≤ sa) ∧ (b = true ∨ 0 ≤ fa)) ∧ (2 ≤ cn → (hs = true ∨ 0 ≤ sa) ∧ (hf = true ∨ 0 ≤ fa))) := ⟨hone, htwo⟩
  have HR : Hid ((cn : Int) * wd ≤ lE) := hroom
  obtain ⟨mv0, hmb0⟩ := hRT.mbh
  obtain ⟨Fc0, hfb0, hfb1⟩ := hRT.fbh
  have cB : ∀ i, wA.cell? ⟨kb, i, none⟩ = (#[.int .u8 t0, .int .u8 t1, .int .u8 t2, .int .u8 t3, .int .i64 st, .int .i64 bd, .int .i64 en] : Array Value)[i]? := by intro i; simp [World.cell?, hbox]
  have Hc : Hid (wA.cell? ⟨fb, 0, none⟩ = some (.pointer (some ⟨mb, 0, none⟩)) ∧ wA.cell? ⟨mb, 5, none⟩ = some (.int .u64 left) ∧ wA.frozen? ⟨mb, 5, none⟩ = false ∧ fb < wA.heap.size ∧ mb < wA.heap.size) := ⟨by simp [World.cell?, hfb0, hfb1], by simp [World.cell?, hmb0], by simp [World.frozen?, hmb0], lt_of_block hfb0, lt_of_block hmb0⟩
  clear hRT hbl hbox hdf hfi hent hB hpE hE hin hpost hone htwo hroom hmb0 hfb0 hfb1
  conv => arg 2; whnf
  go_wp2_with fail
  refine (table_any pE lE lE cn wd t0 t1 t2 t3 st bd en wA hl hw0 hw1 (by omega) (by omega) HR.out).mono ?_
  rintro e w2 ⟨rfl, h2⟩
  have H2 : Hid (Below wA.heap.size wA w2) := h2
  have c1 : w2.cell? ⟨fb, 0, none⟩ = some (.pointer (some ⟨mb, 0, none⟩)) := (h2.cell Hc.out.2.2.2.1).trans Hc.out.1
  have c5 : w2.cell? ⟨mb, 5, none⟩ = some (.int .u64 left) := (h2.cell Hc.out.2.2.2.2).trans Hc.out.2.1
  have f5 : w2.frozen? ⟨mb, 5, none⟩ = false := by rw [World.frozen?_of_block (h2.block mb Hc.out.2.2.2.2)]; exact Hc.out.2.2.1
  clear h2 cB hgb
  have hwc : IntKind.u64.wrap (cn : Int) = cn := by rw [IntKind.wrap_u64]; omega
  go_wp2_with fail
  refine (declare_any mb left cn w2 c5 f5 (by omega) hleft hleft1).mono ?_
  rintro e w3 ⟨rfl, hw3⟩
  have H3 : Hid (w3 = w2.setCell ⟨mb, 5, none⟩ (.int .u64 (left - cn))) := hw3
  clear hw3 c1 c5 f5
  go_upto_region 30 with fail
  go_cut [119] (fun s wx => s = .bool false ∧ wx = w3)
  case first =>
    go_wp2
    go_meet
    exact ⟨rfl, rfl⟩
  case rest =>
    rename_i KA hKA KB hKB
    obtain ⟨rfl, rfl⟩ := hcut
    refine hKB _ _ (wp_cond_false rfl (wp_skip (hKA _ _ ?_)))
    have e3 := H3.out
    have hsame : ∀ {j : Nat} {o : Obj}, wA.heap[j]? = some o → j ≠ mb → wc.heap[j]? = some o := fun {j o} h hne => by
      rw [e3, Below.heap_setCell _ _ _ _ hne, H2.out.block j (lt_of_block h), h]
    obtain ⟨mv, hmb⟩ := HAll.out.1.mbh
    have ne : ∀ {j : Nat} {c : Array Value} {t : TypeId} {f : Nat × Nat}, wA.heap[j]? = some (.cells c t f) → t ≠ 103 → j ≠ mb := fun {j c t f} h ht e => by
      rw [e, hmb] at h
      simp only [Option.some.injEq, Obj.cells.injEq] at h
      exact ht h.2.1.symm
    have hRT3 : RT wc fb mb rb tb sb P len far (left - cn) B (.slice none 0 0) 0 := by rw [e3]; exact (HAll.out.1.step H2.out).put_left _
    have hB3 : Below N w0 wc := by rw [e3]; exact (HAll.out.2.1.trans (H2.out.mono (Nat.le_of_lt (Nat.lt_of_le_of_lt hN (lt_of_block HAll.out.1.sbh))))).setCell hNm _
    exact rt_32 N fb mb rb tb sb P len kb fi Q o lE cn e0 bd en pE B a far (left - cn) sz fl x wd sa fa t0 t1 t2 t3 st hs hf b post w0 _ _ _ _ _ _ _ _ _ _ _ _ _ _ _ _ _ _ _ _ _ _ _ _ _ _ _ _ _ _ _ _ _ _ _ _ _ _ _ _ _ _ _ _ _ _ _ _ _ _ _ _ _ _ _ _ _ _ _ _ _ _ _ _ _ _ _ _ _ _ _ _ _ _ _ _ _ _ _ _ _ _ _ _ _ _ _ _ _ _ _ _ _ _ _ _ _ _ _ _ _ _ _ _ _ _ _ _ _ _ _ _ _ _ _ _ _ _ _ _ _ _ _ _ _ _ _ _ _ _ _ _ _ _ _ _ _ _ _ _ _ _ _ _ _ _ _ _ _ _ _ _ _ _ _ _ _ _ _ _ _ _ _ _ _ _ _ _ _ _ _ _ _ _ _ _ _ _ _ _ _ _ _ _ _ _ _ _ _ _ _ _ _ _ _ _ _ _ _ _ _ _ _ _ _ _ _ _ _ _ _ _ _ _ _ _ _ _ _ _ _ _ _ _ _ _ _ _ _ _ hRT3 hB3 hN hQs (hsame HAll.out.2.2.1 (ne HAll.out.2.2.1 (by decide))) (hsame HAll.out.2.2.2.1 (ne HAll.out.2.2.2.1 (by decide))) (hsame HAll.out.2.2.2.2 (ne HAll.out.2.2.2.2 (by decide)))
      HNum.out.1 hen hlen HNum.out.2 hcn hl hsz0 hsz1 ha0 ha1 hf0 hf1 hsa1 hw0 hw1 HE.out.1 (fun h1 h2 i hi => by
        have hq := HE.out.2.1 h1 h2 i hi
        rw [e3]
        refine (World.cell?_setCell_far _ _ _ _ (fun h : mb = Q => hQm h.symm)).trans ?_
        exact (H2.out.cell (lt_of_cell hq)).trans hq) HE.out.2.2 HP.out HO.out.1 HO.out.2
end Go.Proofs.Qxb6613648aFmt

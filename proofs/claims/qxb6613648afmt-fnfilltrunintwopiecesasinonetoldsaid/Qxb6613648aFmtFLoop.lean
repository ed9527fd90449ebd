/-
  fillTrun: its loop.
-/
import Derived.Test.Qxb6613648aFmtFRead
namespace Go.Proofs.Qxb6613648aFmt
open Go.RowKit
set_option linter.unusedVariables false
set_option linter.unusedSimpArgs false
attribute [local go_sem] setCell_drewN alloc_drewN

theorem wp_then {P : Program} {c : Code} {K : Act → World → Prop} {Q Q' : Exit → Act → World → Prop} {a : Act} {w : World} (h : c.wp P (Exit.then K Q) a w) (hq : ∀ e a w, Exit.then K Q e a w → Exit.then K Q' e a w) : c.wp P (Exit.then K Q') a w := wp_mono h hq

set_option maxRecDepth 1000000 in
set_option maxHeartbeats 8000000 in
theorem fl_7 (fb mb rb tb sb P len qb cp cn e0 v N wb D L : Nat) (far left a sa fa sz x fl : Int) (hs b hf : Bool) (B : Nat → Int) (w0 wS : World) (E R0 eb n : Nat) (A0 : Int) (O Z : Nat → Int) (Y : Nat → Bool) (post : Ending → World → Prop) (w : World) (u2 u3 u4 u5 u10 u11 u12 u13 u14 u15 u16 u17 u18 u19 u20 u21 u22 u23 u24 u25 u26 u27 u28 u29 u30 u31 u32 u33 u34 u35 u36 u37 u38 u39 u40 u41 u42 u43 u44 u45 u46 u47 u48 u49 u50 u51 u52 u53 u54 u55 u56 u57 u58 u59 u60 u61 u62 u63 u64 u65 u66 u67 u68 u69 u70 u71 u72 u73 u74 u75 u76 u77 u78 u79 u80 u81 u82 u83 u84 u85 u86 u87 u88 u89 u90 u91 u92 u93 u94 u95 u96 u97 u98 u99 u100 u101 u102 u103 u104 u105 u106 u107 u108 u109 u110 u111 u112 u113 u114 u115 u116 u117 u118 u119 u120 u121 u122 u123 u124 u125 u126 u127 u128 u129 u130 u131 u132 u133 u134 u135 u136 u137 u138 u139 u140 u141 u142 u143 u144 u145 u146 u147 u148 u149 u150 u151 u152 u153 u154 u155 u156 u157 u158 u159 u160 u161 u162 u163 u164 u165 u166 u167 u168 u169 u170 u171 u172 u173 u174 u175 u176 u177 u178 u179 u180 u181 u182 u183 u184 u185 u186 u187 u188 u189 u190 u191 u192 u193 u194 u195 u196 u197 u198 u199 u200 u201 u202 u203 u204 u205 u206 u207 u208 u209 u210 u211 u212 u213 u214 u215 u216 u217 u218 u219 u220 u221 u222 u223 u224 u225 u226 u227 : Value)
    (hFW : FW fb mb rb tb sb P len qb cp cn e0 v N wb D L far left a sa fa sz x fl hs b hf B w0 wS w E R0 A0 O Z Y) (heb : w.heap[eb]? = some (.cells #[.int .i64 e0, .int .i64 cn, .int .i64 v] 153 (0, 0))) (hA : 0 < E → A0 = offAt far a (szOf B e0 v sa sz) E)
    (hN : N ≤ wb) (hND : N ≤ D) (hE : E < cn) (hcn : cn ≤ 65536) (hL : L ≤ 131072) (hR : R0 ≤ 65536) (hv : v ≤ 16) (hen : e0 + cn * v ≤ len) (hlen : len ≤ 1048576) (hsa : 0 ≤ sa → sa + 4 ≤ v) (hfa : 0 ≤ fa → fa + 4 ≤ v) (hB : Byte B) (hsz0 : 0 ≤ sz) (hsz1 : sz ≤ 4294967295) (hx0 : 0 ≤ x) (hx1 : x ≤ 4294967295) (hfl0 : 0 ≤ fl) (hfl1 : fl ≤ 4294967295) (ha0 : -2147483648 ≤ a) (ha1 : a ≤ 4611686020574871552) (hf0 : 0 ≤ far) (hf1 : far ≤ 4611686018427387904) (hnL : n ≤ L) (hnc : E + n ≤ cn)
    (hpost : ∀ w', FW fb mb rb tb sb P len qb cp cn e0 v N wb D L far left a sa fa sz x fl hs b hf B w0 wS w' (E + n) (R0 + n) (if n = 0 then A0 else offAt far a (szOf B e0 v sa sz) (E + n)) (fun j => if j < n then offAt far a (szOf B e0 v sa sz) (E + j) else O j) (fun j => if j < n then (szOf B e0 v sa sz) (E + j) else Z j) (fun j => if j < n then (bits .and .u32 ((fgOf B e0 v fa x fl) (E + j)) 65536 == 0) else Y j) → post (.returned (.tuple #[.int .i64 n, .nilIface])) w') :
    Code.wp Tryf.prog ((Tryf.f51.body.bind (fromReg 7)).getD .skip) (bodyPost Tryf.prog Tryf.f51 post) ⟨#[.pointer (some ⟨wb, 0, none⟩), .slice (some ⟨D, 0, none⟩) L L, u2, u3, u4, u5, .pointer (some ⟨wb, 1, none⟩), .pointer (some ⟨qb, 0, none⟩), .pointer (some ⟨eb, 0, none⟩), .int .i64 n, u10, u11, u12, u13, u14, u15, u16, u17, u18, u19, u20, u21, u22, u23, u24, u25, u26, u27, u28, u29, u30, u31, u32, u33, u34, u35, u36, u37, u38, u39, u40, u41, u42, u43, u44, u45, u46, u47, u48, u49, u50, u51, u52, u53, u54, u55, u56, u57, u58, u59, u60, u61, u62, u63, u64, u65, u66, u67, u68, u69, u70, u71, u72, u73, u74, u75, u76, u77, u78, u79, u80, u81, u82, u83, u84, u85, u86, u87, u88, u89, u90, u91, u92, u93, u94, u95, u96, u97, u98, u99, u100, u101, u102, u103, u104, u105, u106, u107, u108, u109, u110, u111, u112, u113, u114, u115, u116, u117, u118, u119, u120, u121, u122, u123, u124, u125, u126, u127, u128, u129, u130, u131, u132, u133, u134, u135, u136, u137, u138, u139, u140, u141, u142, u143, u144, u145, u146, u147, u148, u149, u150, u151, u152, u153, u154, u155, u156, u157, u158, u159, u160, u161, u162, u163, u164, u165, u166, u167, u168, u169, u170, u171, u172, u173, u174, u175, u176, u177, u178, u179, u180, u181, u182, u183, u184, u185, u186, u187, u188, u189, u190, u191, u192, u193, u194, u195, u196, u197, u198, u199, u200, u201, u202, u203, u204, u205, u206, u207, u208, u209, u210, u211, u212, u213, u214, u215, u216, u217, u218, u219, u220, u221, u222, u223, u224, u225, u226, u227], []⟩ w := by
  have HF0 : Hid (FW fb mb rb tb sb P len qb cp cn e0 v N wb D L far left a sa fa sz x fl hs b hf B w0 wS w (E + 0) (R0 + 0) (if 0 = 0 then A0 else offAt far a (szOf B e0 v sa sz) (E + 0)) (fun j => if j < 0 then offAt far a (szOf B e0 v sa sz) (E + j) else O j) (fun j => if j < 0 then (szOf B e0 v sa sz) (E + j) else Z j) (fun j => if j < 0 then (bits .and .u32 ((fgOf B e0 v fa x fl) (E + j)) 65536 == 0) else Y j) ∧ w.heap[eb]? = some (.cells #[.int .i64 e0, .int .i64 cn, .int .i64 v] 153 (0, 0))) := ⟨by
    have := hFW.redst (O' := (fun j => if j < 0 then offAt far a (szOf B e0 v sa sz) (E + j) else O j)) (Z' := (fun j => if j < 0 then (szOf B e0 v sa sz) (E + j) else Z j)) (Y' := (fun j => if j < 0 then (bits .and .u32 ((fgOf B e0 v fa x fl) (E + j)) 65536 == 0) else Y j)) (fun i _ => by simp) (fun i _ => by simp) (fun i _ => by simp)
    exact this, heb⟩
  have HAt : Hid (0 < E → A0 = offAt far a (szOf B e0 v sa sz) E) := hA
  have HP : Hid (∀ w', FW fb mb rb tb sb P len qb cp cn e0 v N wb D L far left a sa fa sz x fl hs b hf B w0 wS w' (E + n) (R0 + n) (if n = 0 then A0 else offAt far a (szOf B e0 v sa sz) (E + n)) (fun j => if j < n then offAt far a (szOf B e0 v sa sz) (E + j) else O j) (fun j => if j < n then (szOf B e0 v sa sz) (E + j) else Z j) (fun j => if j < n then (bits .and .u32 ((fgOf B e0 v fa x fl) (E + j)) 65536 == 0) else Y j) → post (.returned (.tuple #[.int .i64 n, .nilIface])) w') := hpost
  have HBy : Hid (Byte B) := hB
  have HSF : Hid ((0 ≤ sa → sa + 4 ≤ v) ∧ (0 ≤ fa → fa + 4 ≤ v) ∧ e0 + cn * v ≤ len) := ⟨hsa, hfa, hen⟩
  clear hFW heb hA hpost hB hsa hfa hen
  conv => arg 2; whnf
  conv => arg 4; zeta
  refine wp_seq_k fun KB hKB => ?_
  go_cut [10, 11, 12, 13, 84, 85] (fun _ _ _ _ _ _ wx => Hid (FW fb mb rb tb sb P len qb cp cn e0 v N wb D L far left a sa fa sz x fl hs b hf B w0 wS wx (E + n) (R0 + n) (if n = 0 then A0 else offAt far a (szOf B e0 v sa sz) (E + n)) (fun j => if j < n then offAt far a (szOf B e0 v sa sz) (E + j) else O j) (fun j => if j < n then (szOf B e0 v sa sz) (E + j) else Z j) (fun j => if j < n then (bits .and .u32 ((fgOf B e0 v fa x fl) (E + j)) 65536 == 0) else Y j)))
  case first =>
    go_wp2_with fail
    go_loopw [10, 11, 12, 13, 85] (fun _ _ _ _ i wr => ∃ k : Nat, k ≤ n ∧ i = .int .i64 k ∧ Hid (FW fb mb rb tb sb P len qb cp cn e0 v N wb D L far left a sa fa sz x fl hs b hf B w0 wS wr (E + k) (R0 + k) (if k = 0 then A0 else offAt far a (szOf B e0 v sa sz) (E + k)) (fun j => if j < k then offAt far a (szOf B e0 v sa sz) (E + j) else O j) (fun j => if j < k then (szOf B e0 v sa sz) (E + j) else Z j) (fun j => if j < k then (bits .and .u32 ((fgOf B e0 v fa x fl) (E + j)) 65536 == 0) else Y j) ∧ wr.heap[eb]? = some (.cells #[.int .i64 e0, .int .i64 cn, .int .i64 v] 153 (0, 0)))) (fun _ _ _ _ i _ => n - (intOf i).toNat)
    case atStart => exact ⟨0, Nat.zero_le _, rfl, HF0⟩
    case round =>
      obtain ⟨k, hk, rfl, HF1⟩ := hrel
      by_cases hlt : k < n
      · obtain ⟨m, hm⟩ : ∃ m, m = E + k := ⟨_, rfl⟩
        have HF : Hid (FW fb mb rb tb sb P len qb cp cn e0 v N wb D L far left a sa fa sz x fl hs b hf B w0 wS wr m (R0 + k) (if k = 0 then A0 else offAt far a (szOf B e0 v sa sz) m) (fun j => if j < k then offAt far a (szOf B e0 v sa sz) (E + j) else O j) (fun j => if j < k then (szOf B e0 v sa sz) (E + j) else Z j) (fun j => if j < k then (bits .and .u32 ((fgOf B e0 v fa x fl) (E + j)) 65536 == 0) else Y j) ∧ wr.heap[eb]? = some (.cells #[.int .i64 e0, .int .i64 cn, .int .i64 v] 153 (0, 0))) := by
          have := HF1.out
          rw [← hm] at this
          exact this
        have hmb : m < cn := by omega
        have HMk : Hid (m = E + k) := hm
        have hAm : k = 0 → 0 < m → A0 = offAt far a (szOf B e0 v sa sz) m := fun h1 h2 => by subst h1; rw [hm]; exact HAt.out (by omega)
        have HAm : Hid (k = 0 → 0 < m → A0 = offAt far a (szOf B e0 v sa sz) m) := hAm
        have q10 : ∀ i, i < 14 → wr.cell? ⟨qb, i, none⟩ = (#[.int .i64 a, .int .i64 e0, .int .i64 cn, .int .i64 v, .int .i64 sa, .int .i64 fa, .int .u32 sz, .int .u32 x, .bool hs, .bool b, .int .u32 sz, .int .u32 fl, .bool hs, .bool hf] : Array Value)[i]? := fun i hi => HF.out.1.tr.cell hi
        have a0 : wr.cell? ⟨qb, 0, none⟩ = some (.int .i64 a) := q10 0 (by decide)
        have a6 : wr.cell? ⟨qb, 6, none⟩ = some (.int .u32 sz) := q10 6 (by decide)
        have a7 : wr.cell? ⟨qb, 7, none⟩ = some (.int .u32 x) := q10 7 (by decide)
        have a8 : wr.cell? ⟨qb, 8, none⟩ = some (.bool hs) := q10 8 (by decide)
        have a9 : wr.cell? ⟨qb, 9, none⟩ = some (.bool b) := q10 9 (by decide)
        have a10 : wr.cell? ⟨qb, 10, none⟩ = some (.int .u32 sz) := q10 10 (by decide)
        have a11 : wr.cell? ⟨qb, 11, none⟩ = some (.int .u32 fl) := q10 11 (by decide)
        have a12 : wr.cell? ⟨qb, 12, none⟩ = some (.bool hs) := q10 12 (by decide)
        have a13 : wr.cell? ⟨qb, 13, none⟩ = some (.bool hf) := q10 13 (by decide)
        have w13 : wr.cell? ⟨wb, 13, none⟩ = some (.int .i64 m) := HF.out.1.c13
        have w14 : wr.cell? ⟨wb, 14, none⟩ = some (.int .i64 (if k = 0 then A0 else offAt far a (szOf B e0 v sa sz) m)) := HF.out.1.c14
        have wf : wr.frozen? ⟨wb, 14, none⟩ = false := by
          obtain ⟨cu, h1, h2⟩ := HF.out.1.wk
          simp [World.frozen?, h1]
        have lw := lt_of_cell w13
        have lq := lt_of_cell a0
        have hNr : N ≤ wr.heap.size := Nat.le_trans hN (Nat.le_of_lt lw)
        have leb : eb < wr.heap.size := lt_of_block HF.out.2
        clear q10 hAm HF1 hm
        go_upto_if 96 with fail
        go_cut [] (fun wx => Hid (FW fb mb rb tb sb P len qb cp cn e0 v N wb D L far left a sa fa sz x fl hs b hf B w0 wS wx m (R0 + k) (offAt far a (szOf B e0 v sa sz) m) (fun j => if j < k then offAt far a (szOf B e0 v sa sz) (E + j) else O j) (fun j => if j < k then (szOf B e0 v sa sz) (E + j) else Z j) (fun j => if j < k then (bits .and .u32 ((fgOf B e0 v fa x fl) (E + j)) 65536 == 0) else Y j) ∧ wx.heap[wr.heap.size]? = some (.cells #[.int .u32 sz, .int .u32 (if m = 0 then x else fl), .bool hs, .bool (if m = 0 then b else hf)] 109 (0, 0)) ∧ wx.heap[eb]? = some (.cells #[.int .i64 e0, .int .i64 cn, .int .i64 v] 153 (0, 0))))
        case first =>
          by_cases hm0 : m = 0
          · have hm0' : ((m : Int) == 0) = true := by simp [hm0]
            have HM : Hid (m = 0) := hm0
            clear hm0
            go_upto_region 12 with fail
            go_region
            go_wp2
            go_meet
            have h1 := HF.out.1.put hN 14 (.int .i64 a) (by decide) (by decide) (by decide) (Nat.le_refl _) (raw' := R0 + k) (ent' := m) (at2 := offAt far a (szOf B e0 v sa sz) m) rfl rfl (by rw [HM.out]; rfl)
            have hsz : (wr.setCell ⟨wb, 14, none⟩ (.int .i64 a)).heap.size = wr.heap.size := by simp [World.setCell]
            refine ⟨h1.own (((Below.refl _ _).alloc (by rw [hsz]; exact hNr) _).drew) (fun j c t f h _ _ => alloc_keep h), ?_, ?_⟩
            · rw [if_pos HM.out, if_pos HM.out]
              exact alloc_new hsz.symm
            · refine alloc_keep ((Below.heap_setCell _ _ _ _ ?_).trans HF.out.2)
              obtain ⟨cu, g1, g2⟩ := HF.out.1.wk
              have g3 := HF.out.2
              intro (e : eb = wb)
              rw [e, g1] at g3
              simp at g3
          · have hm0' : ((m : Int) == 0) = false := by simp [hm0]
            have HM : Hid (m ≠ 0) := hm0
            clear hm0
            go_wp2
            go_meet
            have e1 : (if k = 0 then A0 else offAt far a (szOf B e0 v sa sz) m) = offAt far a (szOf B e0 v sa sz) m := by
              split
              · rename_i h
                exact HAm.out h (Nat.pos_of_ne_zero HM.out)
              · rfl
            have h1 := HF.out.1
            rw [e1] at h1
            refine ⟨h1.own ((Below.refl _ _).alloc hNr _) (fun j c t f h _ _ => alloc_keep h), ?_, alloc_keep HF.out.2⟩
            rw [if_neg HM.out, if_neg HM.out]
            exact alloc_new rfl
        case rest =>
          have HA : Hid (FW fb mb rb tb sb P len qb cp cn e0 v N wb D L far left a sa fa sz x fl hs b hf B w0 wS wc m (R0 + k) (offAt far a (szOf B e0 v sa sz) m) (fun j => if j < k then offAt far a (szOf B e0 v sa sz) (E + j) else O j) (fun j => if j < k then (szOf B e0 v sa sz) (E + j) else Z j) (fun j => if j < k then (bits .and .u32 ((fgOf B e0 v fa x fl) (E + j)) 65536 == 0) else Y j) ∧ wc.heap[wr.heap.size]? = some (.cells #[.int .u32 sz, .int .u32 (if m = 0 then x else fl), .bool hs, .bool (if m = 0 then b else hf)] 109 (0, 0)) ∧ wc.heap[eb]? = some (.cells #[.int .i64 e0, .int .i64 cn, .int .i64 v] 153 (0, 0))) := hcut
          obtain ⟨w1, hw1⟩ : ∃ w1, w1 = wc := ⟨_, rfl⟩
          subst hw1
          clear hcut a0 a6 a7 a8 a9 a10 a11 a12 a13 w13 w14 wf lw lq
          have b3 : w1.cell? ⟨qb, 3, none⟩ = some (.int .i64 v) := HA.out.1.tr.cell (i := 3) (by decide)
          rename_i KR hKR
          refine hKR _ _ ?_
          go_upto_if 112 with fail
          go_cut [12, 13] (fun _ _ wx => Hid (FW fb mb rb tb sb P len qb cp cn e0 v N wb D L far left a sa fa sz x fl hs b hf B w0 wS wx m (R0 + k) (offAt far a (szOf B e0 v sa sz) m) (fun j => if j < k then offAt far a (szOf B e0 v sa sz) (E + j) else O j) (fun j => if j < k then (szOf B e0 v sa sz) (E + j) else Z j) (fun j => if j < k then (bits .and .u32 ((fgOf B e0 v fa x fl) (E + j)) 65536 == 0) else Y j) ∧ (∃ y1 y2, wx.heap[wr.heap.size]? = some (.cells #[.int .u32 ((szOf B e0 v sa sz) m), .int .u32 ((fgOf B e0 v fa x fl) m), y1, y2] 109 (0, 0))) ∧ wx.heap[eb]? = some (.cells #[.int .i64 e0, .int .i64 cn, .int .i64 v] 153 (0, 0))))
          case first =>
            by_cases hv0 : v = 0
            · have hvd : ¬ 0 < v := by omega
              have hvd2 : ¬ (0 : Int) < (v : Int) := by omega
              have HV : Hid (v = 0) := hv0
              clear hv0
              refine wp_cond_false (by simp [Act.eval, hvd, hvd2]) ?_
              go_wp2
              go_meet
              have h1 : ¬ 0 ≤ sa := fun h => by have := HSF.out.1 h; have := HV.out; omega
              have h2 : ¬ 0 ≤ fa := fun h => by have := HSF.out.2.1 h; have := HV.out; omega
              have e1 : (szOf B e0 v sa sz) m = sz := by unfold szOf; rw [if_neg h1]
              have e2 : (fgOf B e0 v fa x fl) m = if m = 0 then x else fl := by unfold fgOf; rw [if_neg h2]
              refine ⟨HA.out.1, ⟨.bool hs, .bool (if m = 0 then b else hf), ?_⟩, HA.out.2.2⟩
              rw [e1, e2]
              exact HA.out.2.1
            · have hv1 : 0 < v := Nat.pos_of_ne_zero hv0
              have hv2 : (0 : Int) < (v : Int) := by omega
              refine wp_cond_true (by simp [Act.eval, hv1, hv2]) ?_
              refine wp_then (fl_read fb mb rb tb sb P len qb cp cn e0 v N wb D L far left a sa fa sz x fl hs b hf B w0 wS m k (R0 + k) n eb wr.heap.size (offAt far a (szOf B e0 v sa sz) m) (fun j => if j < k then offAt far a (szOf B e0 v sa sz) (E + j) else O j) (fun j => if j < k then (szOf B e0 v sa sz) (E + j) else Z j) (fun j => if j < k then (bits .and .u32 ((fgOf B e0 v fa x fl) (E + j)) 65536 == 0) else Y j) _ post w1 _ _ _ _ _ _ _ _ _ _ _ _ _ _ _ _ _ _ _ _ _ _ _ _ _ _ _ _ _ _ _ _ _ _ _ _ _ _ _ _ _ _ _ _ _ _ _ _ _ _ _ _ _ _ _ _ _ _ _ _ _ _ _ _ _ _ _ _ _ _ _ _ _ _ _ _ _ _ _ _ _ _ _ _ _ _ _ _ _ _ _ _ _ _ _ _ _ _ _ _ _ _ _ _ _ _ _ _ _ _ _ _ _ _ _ _ _ _ _ _ _ _ _ _ _ _ _ _ _ _ _ _ _ _ _ _ _ _ _ _ _ _ _ _ _ _ _ _ _ _ _ _ _ _ _ _ _ _ _ _ _ _ _ _ _ _ _ _ _ _ _ _ _ _ _ _ _ _ _ _ _ _ _ _ _ _ _ _ _ _ _ _ _ _ _ _ _ _ _ _ _ _ _ _ _ _ _ _ _ _ _ _ _ _ _ _ _ _ _ _ HA.out hN hNr hmb hcn hv hv1 HSF.out.2.2 hlen HSF.out.1 HSF.out.2.1 HBy.out (fun z4 z5 z12 z13 z113 z114 z115 z116 z117 z118 z119 z120 z121 z122 z123 z124 z125 z126 z127 z128 z129 z130 z131 z132 z133 z134 z135 z136 z137 z138 z139 z140 z141 z142 z143 z144 z145 z146 z147 z148 z149 z150 z151 z152 z153 z154 z155 z156 z157 z158 z159 z160 z161 z162 z163 z164 z165 z166 z167 z168 z169 z170 z171 z172 z173 w' h => ?_)) ?_
              · conv => arg 1; zeta
                go_wp2
                go_meet
                exact h
              · intro e a' w' h
                cases e <;> first | exact h | exact h.elim
          case rest =>
            obtain ⟨w2, hw2⟩ : ∃ w2, w2 = wc := ⟨_, rfl⟩
            subst hw2
            have HB : Hid (FW fb mb rb tb sb P len qb cp cn e0 v N wb D L far left a sa fa sz x fl hs b hf B w0 wS w2 m (R0 + k) (offAt far a (szOf B e0 v sa sz) m) (fun j => if j < k then offAt far a (szOf B e0 v sa sz) (E + j) else O j) (fun j => if j < k then (szOf B e0 v sa sz) (E + j) else Z j) (fun j => if j < k then (bits .and .u32 ((fgOf B e0 v fa x fl) (E + j)) 65536 == 0) else Y j) ∧ (∃ y1 y2, w2.heap[wr.heap.size]? = some (.cells #[.int .u32 ((szOf B e0 v sa sz) m), .int .u32 ((fgOf B e0 v fa x fl) m), y1, y2] 109 (0, 0))) ∧ w2.heap[eb]? = some (.cells #[.int .i64 e0, .int .i64 cn, .int .i64 v] 153 (0, 0))) := hcut
            clear hcut HA b3
            obtain ⟨o, eo⟩ : ∃ o, o = offAt far a (szOf B e0 v sa sz) m := ⟨_, rfl⟩
            obtain ⟨s, es⟩ : ∃ s, s = (szOf B e0 v sa sz) m := ⟨_, rfl⟩
            obtain ⟨g, eg⟩ : ∃ g, g = (fgOf B e0 v fa x fl) m := ⟨_, rfl⟩
            have hob : -2147483648 ≤ o ∧ o ≤ 4611686020574871552 := by rw [eo]; exact offAt_bd (fun j => szOf_bd HBy.out _ _ _ _ hsz0 hsz1 j) ha0 ha1 hf0 hf1 m
            have hsb : 0 ≤ s ∧ s ≤ 4294967295 := by rw [es]; exact szOf_bd HBy.out _ _ _ _ hsz0 hsz1 m
            have HB2 : Hid (FW fb mb rb tb sb P len qb cp cn e0 v N wb D L far left a sa fa sz x fl hs b hf B w0 wS w2 m (R0 + k) o (fun j => if j < k then offAt far a (szOf B e0 v sa sz) (E + j) else O j) (fun j => if j < k then (szOf B e0 v sa sz) (E + j) else Z j) (fun j => if j < k then (bits .and .u32 ((fgOf B e0 v fa x fl) (E + j)) 65536 == 0) else Y j) ∧ (∃ y1 y2, w2.heap[wr.heap.size]? = some (.cells #[.int .u32 s, .int .u32 g, y1, y2] 109 (0, 0))) ∧ w2.heap[eb]? = some (.cells #[.int .i64 e0, .int .i64 cn, .int .i64 v] 153 (0, 0))) := by
              rw [eo, es, eg]
              exact HB.out
            have HEq : Hid (o = offAt far a (szOf B e0 v sa sz) m ∧ s = (szOf B e0 v sa sz) m ∧ g = (fgOf B e0 v fa x fl) m) := ⟨eo, es, eg⟩
            clear HB eo es eg
            obtain ⟨y1, y2, hdb⟩ := HB2.out.2.1
            obtain ⟨dc, d1, d2, d3⟩ := HB2.out.1.dst
            have hkL : k < L := by omega
            have w14 : w2.cell? ⟨wb, 14, none⟩ = some (.int .i64 o) := HB2.out.1.c14
            have e0' : w2.cell? ⟨wr.heap.size, 0, none⟩ = some (.int .u32 s) := by simp [World.cell?, hdb]
            have e1' : w2.cell? ⟨wr.heap.size, 1, none⟩ = some (.int .u32 g) := by simp [World.cell?, hdb]
            obtain ⟨x0, hx0'⟩ : ∃ u, w2.cell? ⟨D, k * 3, none⟩ = some u := ⟨_, by simp only [World.cell?, d1]; exact (d3 k hkL).1⟩
            obtain ⟨x1, hx1'⟩ : ∃ u, w2.cell? ⟨D, k * 3 + 1, none⟩ = some u := ⟨_, by simp only [World.cell?, d1]; exact (d3 k hkL).2.1⟩
            obtain ⟨x2, hx2'⟩ : ∃ u, w2.cell? ⟨D, k * 3 + 2, none⟩ = some u := ⟨_, by simp only [World.cell?, d1]; exact (d3 k hkL).2.2⟩
            have fD : ∀ i, w2.frozen? ⟨D, i, none⟩ = false := fun i => by simp [World.frozen?, d1]
            have neb : eb ≠ D := cells_ne' HB2.out.2.2 d1 (by decide)
            clear hdb d1 d2 d3
            have hkI : (k : Int) < L := by omega
            rename_i KD hKD
            refine hKD _ _ ?_
            go_upto_region 24 with fail
            go_cut [] (fun wx => Hid (FW fb mb rb tb sb P len qb cp cn e0 v N wb D L far left a sa fa sz x fl hs b hf B w0 wS wx m (R0 + k) o (fun j => if j = k then o else if j < k then offAt far a (szOf B e0 v sa sz) (E + j) else O j) (fun j => if j = k then s else if j < k then (szOf B e0 v sa sz) (E + j) else Z j) (fun j => if j = k then (bits .and .u32 g 65536 == 0) else if j < k then (bits .and .u32 ((fgOf B e0 v fa x fl) (E + j)) 65536 == 0) else Y j) ∧ wx.heap[eb]? = some (.cells #[.int .i64 e0, .int .i64 cn, .int .i64 v] 153 (0, 0))))
            case first =>
              go_region
              go_wp2
              go_meet
              have h1 := HB2.out.1.lay hND k hkL o s (bits .and .u32 g 65536 == 0)
              refine ⟨h1.own ((Below.refl _ _).drew) (fun j c t f h _ _ => h), ?_⟩
              show (World.heap (World.setCell _ _ _))[eb]? = _
              rw [Below.heap_setCell _ _ _ _ neb, Below.heap_setCell _ _ _ _ neb, Below.heap_setCell _ _ _ _ neb]
              exact HB2.out.2.2
            case rest =>
              obtain ⟨w3, hw3⟩ : ∃ w3, w3 = wc := ⟨_, rfl⟩
              subst hw3
              have HC : Hid (FW fb mb rb tb sb P len qb cp cn e0 v N wb D L far left a sa fa sz x fl hs b hf B w0 wS w3 m (R0 + k) o (fun j => if j = k then o else if j < k then offAt far a (szOf B e0 v sa sz) (E + j) else O j) (fun j => if j = k then s else if j < k then (szOf B e0 v sa sz) (E + j) else Z j) (fun j => if j = k then (bits .and .u32 g 65536 == 0) else if j < k then (bits .and .u32 ((fgOf B e0 v fa x fl) (E + j)) 65536 == 0) else Y j) ∧ w3.heap[eb]? = some (.cells #[.int .i64 e0, .int .i64 cn, .int .i64 v] 153 (0, 0))) := hcut
              clear hcut w14 e0' e1' hx0' hx1' hx2' fD HB2
              obtain ⟨dc3, d13, d23, d33⟩ := HC.out.1.dst
              have w14 : w3.cell? ⟨wb, 14, none⟩ = some (.int .i64 o) := HC.out.1.c14
              have w00 : w3.cell? ⟨wb, 0, none⟩ = some (.pointer (some ⟨sb, 0, none⟩)) := HC.out.1.c0
              have sb1 : w3.cell? ⟨sb, 1, none⟩ = some (.int .i64 far) := by simp [World.cell?, HC.out.1.rt.sbh]
              have x1' : w3.cell? ⟨D, k * 3 + 1, none⟩ = some (.int .i64 s) := by
                have := (d33 k hkL).2.1
                dsimp only at this
                rw [if_pos rfl] at this
                simp only [World.cell?, d13]
                exact this
              have wf : ∀ i, w3.frozen? ⟨wb, i, none⟩ = false := fun i => by
                obtain ⟨cu, h1, h2⟩ := HC.out.1.wk
                simp [World.frozen?, h1]
              have neb2 : eb ≠ wb := by
                obtain ⟨cu, h1, h2⟩ := HC.out.1.wk
                exact cells_ne' HC.out.2 h1 (by decide)
              clear d13 d23 d33
              rename_i KE hKE
              refine hKE _ _ ?_
              obtain ⟨t, ht⟩ : ∃ t, (if far < o + s then far else o + s) = t := ⟨_, rfl⟩
              have HT : Hid (t = min (o + s) far) := by show _ = _; rw [← ht, minF]
              go_upto_region 25 with fail
              go_cut [] (fun wx => Hid (FW fb mb rb tb sb P len qb cp cn e0 v N wb D L far left a sa fa sz x fl hs b hf B w0 wS wx m (R0 + k) t (fun j => if j = k then o else if j < k then offAt far a (szOf B e0 v sa sz) (E + j) else O j) (fun j => if j = k then s else if j < k then (szOf B e0 v sa sz) (E + j) else Z j) (fun j => if j = k then (bits .and .u32 g 65536 == 0) else if j < k then (bits .and .u32 ((fgOf B e0 v fa x fl) (E + j)) 65536 == 0) else Y j) ∧ wx.heap[eb]? = some (.cells #[.int .i64 e0, .int .i64 cn, .int .i64 v] 153 (0, 0))))
              case first =>
                go_region
                go_wp2
                go_meet
                have h1 := HC.out.1.put hN 14 (.int .i64 t) (by decide) (by decide) (by decide) (Nat.le_refl _) (raw' := R0 + k) (ent' := m) (at2 := t) rfl rfl rfl
                refine ⟨h1.own ((Below.refl _ _).drew) (fun j c t f h _ _ => h), ?_⟩
                show (World.heap (World.setCell _ _ _))[eb]? = _
                rw [Below.heap_setCell _ _ _ _ neb2]
                exact HC.out.2
              case rest =>
                obtain ⟨w4, hw4⟩ : ∃ w4, w4 = wc := ⟨_, rfl⟩
                subst hw4
                have HD : Hid (FW fb mb rb tb sb P len qb cp cn e0 v N wb D L far left a sa fa sz x fl hs b hf B w0 wS w4 m (R0 + k) t (fun j => if j = k then o else if j < k then offAt far a (szOf B e0 v sa sz) (E + j) else O j) (fun j => if j = k then s else if j < k then (szOf B e0 v sa sz) (E + j) else Z j) (fun j => if j = k then (bits .and .u32 g 65536 == 0) else if j < k then (bits .and .u32 ((fgOf B e0 v fa x fl) (E + j)) 65536 == 0) else Y j) ∧ w4.heap[eb]? = some (.cells #[.int .i64 e0, .int .i64 cn, .int .i64 v] 153 (0, 0))) := hcut
                clear hcut w14 w00 sb1 x1' wf HC ht
                obtain ⟨r, hr⟩ : ∃ r, r = R0 + k := ⟨_, rfl⟩
                have hrb : r ≤ 196608 := by omega
                have w13 : w4.cell? ⟨wb, 13, none⟩ = some (.int .i64 m) := HD.out.1.c13
                have w1' : w4.cell? ⟨wb, 1, none⟩ = some (.int .i64 r) := by rw [hr]; exact HD.out.1.c1
                have wf : ∀ i, w4.frozen? ⟨wb, i, none⟩ = false := fun i => by
                  obtain ⟨cu, h1, h2⟩ := HD.out.1.wk
                  simp [World.frozen?, h1]
                have HRr : Hid (r = R0 + k) := hr
                clear hr
                rename_i KF hKF
                refine hKF _ _ ?_
                go_upto_region 26 with fail
                go_region
                all_goals
                  have HG : Hid (FW fb mb rb tb sb P len qb cp cn e0 v N wb D L far left a sa fa sz x fl hs b hf B w0 wS ((w4.setCell ⟨wb, 13, none⟩ (.int .i64 ((m : Int) + 1))).setCell ⟨wb, 1, none⟩ (.int .i64 ((r : Int) + 1))).drew (m + 1) (r + 1) t (fun j => if j = k then o else if j < k then offAt far a (szOf B e0 v sa sz) (E + j) else O j) (fun j => if j = k then s else if j < k then (szOf B e0 v sa sz) (E + j) else Z j) (fun j => if j = k then (bits .and .u32 g 65536 == 0) else if j < k then (bits .and .u32 ((fgOf B e0 v fa x fl) (E + j)) 65536 == 0) else Y j) ∧ ((w4.setCell ⟨wb, 13, none⟩ (.int .i64 ((m : Int) + 1))).setCell ⟨wb, 1, none⟩ (.int .i64 ((r : Int) + 1))).drew.heap[eb]? = some (.cells #[.int .i64 e0, .int .i64 cn, .int .i64 v] 153 (0, 0))) := by
                    have hD0 := HD.out.1
                    rw [← HRr.out] at hD0
                    have h1 := hD0.put hN 13 (.int .i64 ((m : Int) + 1)) (by decide) (by decide) (by decide) (Nat.le_succ _) (raw' := r) (ent' := m + 1) (at2 := t) rfl (by simp) rfl
                    have h2 := h1.put hN 1 (.int .i64 ((r : Int) + 1)) (by decide) (by decide) (by decide) (Nat.le_refl _) (raw' := r + 1) (ent' := m + 1) (at2 := t) (by simp) rfl rfl
                    refine ⟨h2.own ((Below.refl _ _).drew) (fun j c t f h _ _ => h), ?_⟩
                    show (World.heap (World.setCell _ _ _))[eb]? = _
                    rw [Below.heap_setCell _ _ _ _ neb2, Below.heap_setCell _ _ _ _ neb2]
                    exact HD.out.2
                  go_wp2
                  go_roundw
                  case rel =>
                    refine ⟨k + 1, by omega, by go_num, ?_⟩
                    have h1 := HG.out.1
                    have hx : t = offAt far a (szOf B e0 v sa sz) (m + 1) := by
                      rw [HT.out, HEq.out.1, HEq.out.2.1]
                      rfl
                    have e1 : E + (k + 1) = m + 1 := by rw [HMk.out]; omega
                    have e2 : R0 + (k + 1) = r + 1 := by rw [HRr.out]; omega
                    refine ⟨?_, HG.out.2⟩
                    have h2 := h1.redst (O' := (fun j => if j < k + 1 then offAt far a (szOf B e0 v sa sz) (E + j) else O j)) (Z' := (fun j => if j < k + 1 then (szOf B e0 v sa sz) (E + j) else Z j)) (Y' := (fun j => if j < k + 1 then (bits .and .u32 ((fgOf B e0 v fa x fl) (E + j)) 65536 == 0) else Y j)) (fun i _ => ?_) (fun i _ => ?_) (fun i _ => ?_)
                    · rw [if_neg (Nat.succ_ne_zero k), e1, e2, ← hx]
                      exact h2
                    · by_cases e : i = k
                      · subst e; rw [if_pos rfl, if_pos (Nat.lt_succ_self _), HEq.out.1, HMk.out]
                      · rw [if_neg e]
                        by_cases e2 : i < k
                        · rw [if_pos e2, if_pos (by omega)]
                        · rw [if_neg e2, if_neg (by omega)]
                    · by_cases e : i = k
                      · subst e; rw [if_pos rfl, if_pos (Nat.lt_succ_self _), HEq.out.2.1, HMk.out]
                      · rw [if_neg e]
                        by_cases e2 : i < k
                        · rw [if_pos e2, if_pos (by omega)]
                        · rw [if_neg e2, if_neg (by omega)]
                    · by_cases e : i = k
                      · subst e; rw [if_pos rfl, if_pos (Nat.lt_succ_self _), HEq.out.2.2, HMk.out]
                      · rw [if_neg e]
                        by_cases e2 : i < k
                        · rw [if_pos e2, if_pos (by omega)]
                        · rw [if_neg e2, if_neg (by omega)]
                  case measure => simp [intOf]; omega
      · have HE : Hid (k = n) := by show _ = _; omega
        go_wp2
        go_meet
        rw [← HE.out]
        exact HF1.out.1
  case rest =>
    have HC : Hid (FW fb mb rb tb sb P len qb cp cn e0 v N wb D L far left a sa fa sz x fl hs b hf B w0 wS wc (E + n) (R0 + n) (if n = 0 then A0 else offAt far a (szOf B e0 v sa sz) (E + n)) (fun j => if j < n then offAt far a (szOf B e0 v sa sz) (E + j) else O j) (fun j => if j < n then (szOf B e0 v sa sz) (E + j) else Z j) (fun j => if j < n then (bits .and .u32 ((fgOf B e0 v fa x fl) (E + j)) 65536 == 0) else Y j)) := hcut
    refine hKB _ _ ?_
    go_wp2
    exact HP.out _ HC.out
end Go.Proofs.Qxb6613648aFmt

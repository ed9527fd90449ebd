/-
  readTrun: each sample has a size and flags.
-/
import Derived.Test.Qxb6613648aFmtRApp
namespace Go.Proofs.Qxb6613648aFmt
open Go.RowKit
set_option linter.unusedVariables false
set_option linter.unusedSimpArgs false
attribute [local go_sem] setCell_drewN alloc_drewN

theorem two_or {p q : Bool} {x y : Int} (h : (p = true ∨ 0 ≤ x) ∧ (q = true ∨ 0 ≤ y)) : (p = true ∨ (p = false ∧ 0 ≤ x)) ∧ (q = true ∨ (q = false ∧ 0 ≤ y)) := by
  obtain ⟨h1, h2⟩ := h
  refine ⟨?_, ?_⟩
  · cases p
    · exact .inr ⟨rfl, by simpa using h1⟩
    · exact .inl rfl
  · cases q
    · exact .inr ⟨rfl, by simpa using h2⟩
    · exact .inl rfl

set_option maxRecDepth 1000000 in
set_option maxHeartbeats 4000000 in
theorem rt_32 (N fb mb rb tb sb P len kb fi Q o lE cn e0 bd en : Nat) (pE : Addr) (B : Nat → Int) (a far left sz fl x wd sa fa t0 t1 t2 t3 st : Int) (hs hf b : Bool) (post : Ending → World → Prop) (w0 wA : World) (u1 u3 u4 u5 u6 u8 u10 u11 u12 u13 u14 u15 u16 u17 u18 u19 u25 u26 u29 u30 u31 u32 u33 u34 u35 u36 u37 u38 u39 u40 u41 u42 u43 u44 u45 u46 u47 u48 u49 u50 u51 u52 u53 u54 u55 u56 u57 u58 u59 u60 u61 u62 u63 u64 u65 u66 u67 u68 u69 u70 u71 u72 u73 u74 u75 u76 u77 u78 u79 u80 u81 u82 u83 u84 u85 u86 u87 u88 u89 u90 u91 u92 u93 u94 u95 u96 u97 u98 u99 u100 u101 u102 u103 u104 u105 u106 u107 u108 u109 u110 u111 u112 u113 u114 u115 u116 u117 u118 u119 u120 u121 u122 u123 u124 u125 u126 u127 u128 u129 u130 u131 u132 u133 u134 u135 u136 u137 u138 u139 u140 u141 u142 u143 u144 u145 u146 u147 u148 u149 u150 u151 u152 u153 u154 u155 u156 u157 u158 u159 u160 u161 u162 u163 u164 u165 u166 u167 u168 u169 u170 u171 u172 u173 u174 u175 u176 u177 u178 u179 u180 u181 u182 u183 u184 u185 u186 u187 u188 u189 u190 u191 u192 u193 u194 u195 u196 u197 u198 u199 u200 u201 u202 u203 u204 u205 u206 u207 u208 u209 u210 u211 u212 u213 u214 u215 u216 u217 u218 u219 u220 u221 u222 u223 u224 u225 u226 u227 u228 u229 u230 u231 u232 u233 u234 u235 u236 u237 u238 u239 : Value)
    (hRT : RT wA fb mb rb tb sb P len far left B (.slice none 0 0) 0) (hbl : Below N w0 wA) (hN : N ≤ sb) (hQs : Q ≠ sb)
    (hbox : wA.heap[kb]? = some (.cells #[.int .u8 t0, .int .u8 t1, .int .u8 t2, .int .u8 t3, .int .i64 st, .int .i64 bd, .int .i64 en] 114 (0, 0))) (hdf : wA.heap[kb + 1]? = some (.cells #[.int .u32 sz, .int .u32 fl, .bool hs, .bool hf] 109 (0, 0))) (hfi : wA.heap[fi]? = some (.cells #[.int .u32 sz, .int .u32 x, .bool hs, .bool b] 109 (0, 0)))
    (hent : (en : Int) - lE = e0) (hen : en ≤ len) (hlen : len ≤ 1048576)
    (hB : Byte B) (hcn : cn ≤ 65536) (hl : lE ≤ 1048576) (hsz0 : 0 ≤ sz) (hsz1 : sz ≤ 4294967295) (ha0 : -2147483648 ≤ a) (ha1 : a ≤ 4611686020574871552) (hf0 : 0 ≤ far) (hf1 : far ≤ 4611686018427387904)
    (hsa1 : sa ≤ 16) (hw0 : 0 ≤ wd) (hw1 : wd ≤ 16) (hpE : 0 ≤ sa → 0 < cn → pE = ⟨Q, o, none⟩) (hE : 0 ≤ sa → 0 < cn → Bytes wA Q o lE (fun i => B (e0 + i))) (hin : 0 ≤ sa → ∀ j : Nat, j < cn → (j : Int) * wd + sa + 4 ≤ lE)
    (hpost : ∀ w' qb cp, RT w' fb mb rb tb sb P len far left B (.slice (some ⟨qb, 0, none⟩) 1 cp) cn → TrunAt w' qb #[.int .i64 a, .int .i64 e0, .int .i64 cn, .int .i64 wd, .int .i64 sa, .int .i64 fa, .int .u32 sz, .int .u32 x, .bool hs, .bool b, .int .u32 sz, .int .u32 fl, .bool hs, .bool hf] → Below N w0 w' → post (.returned (.tuple #[.int .i64 (offAt far a (szOf B e0 wd sa sz) cn), .nilIface])) w') (hone : 1 ≤ cn → (hs = true ∨ 0 ≤ sa) ∧ (b = true ∨ 0 ≤ fa)) (htwo : 2 ≤ cn → (hs = true ∨ 0 ≤ sa) ∧ (hf = true ∨ 0 ≤ fa)) :
    Code.wp Tryf.prog ((Tryf.f50.body.bind (fromReg 32)).getD .skip) (bodyPost Tryf.prog Tryf.f50 post) ⟨#[.pointer (some ⟨fb, 0, none⟩), u1, .pointer (some ⟨tb, 0, none⟩), u3, u4, u5, u6, .pointer (some ⟨kb, 0, none⟩), u8, .pointer (some ⟨kb + 1, 0, none⟩), u10, u11, u12, u13, u14, u15, u16, u17, u18, u19, .int .i64 a, .pointer (some ⟨fi, 0, none⟩), .int .i64 sa, .int .i64 fa, .int .i64 wd, u25, u26, .slice (some pE) lE lE, .int .i64 cn, u29, u30, u31, u32, u33, u34, u35, u36, u37, u38, u39, u40, u41, u42, u43, u44, u45, u46, u47, u48, u49, u50, u51, u52, u53, u54, u55, u56, u57, u58, u59, u60, u61, u62, u63, u64, u65, u66, u67, u68, u69, u70, u71, u72, u73, u74, u75, u76, u77, u78, u79, u80, u81, u82, u83, u84, u85, u86, u87, u88, u89, u90, u91, u92, u93, u94, u95, u96, u97, u98, u99, u100, u101, u102, u103, u104, u105, u106, u107, u108, u109, u110, u111, u112, u113, u114, u115, u116, u117, u118, u119, u120, u121, u122, u123, u124, u125, u126, u127, u128, u129, u130, u131, u132, u133, u134, u135, u136, u137, u138, u139, u140, u141, u142, u143, u144, u145, u146, u147, u148, u149, u150, u151, u152, u153, u154, u155, u156, u157, u158, u159, u160, u161, u162, u163, u164, u165, u166, u167, u168, u169, u170, u171, u172, u173, u174, u175, u176, u177, u178, u179, u180, u181, u182, u183, u184, u185, u186, u187, u188, u189, u190, u191, u192, u193, u194, u195, u196, u197, u198, u199, u200, u201, u202, u203, u204, u205, u206, u207, u208, u209, u210, u211, u212, u213, u214, u215, u216, u217, u218, u219, u220, u221, u222, u223, u224, u225, u226, u227, u228, u229, u230, u231, u232, u233, u234, u235, u236, u237, u238, u239], []⟩ wA := by
  have HAll : Hid (RT wA fb mb rb tb sb P len far left B (.slice none 0 0) 0 ∧ Below N w0 wA ∧ wA.heap[kb]? = some (.cells #[.int .u8 t0, .int .u8 t1, .int .u8 t2, .int .u8 t3, .int .i64 st, .int .i64 bd, .int .i64 en] 114 (0, 0)) ∧ wA.heap[kb + 1]? = some (.cells #[.int .u32 sz, .int .u32 fl, .bool hs, .bool hf] 109 (0, 0)) ∧ wA.heap[fi]? = some (.cells #[.int .u32 sz, .int .u32 x, .bool hs, .bool b] 109 (0, 0))) := ⟨hRT, hbl, hbox, hdf, hfi⟩
  have HNum : Hid ((en : Int) - lE = e0 ∧ Byte B) := ⟨hent, hB⟩
  have HE : Hid ((0 ≤ sa → 0 < cn → pE = ⟨Q, o, none⟩) ∧ (0 ≤ sa → 0 < cn → Bytes wA Q o lE (fun i => B (e0 + i))) ∧ (0 ≤ sa → ∀ j : Nat, j < cn → (j : Int) * wd + sa + 4 ≤ lE)) := ⟨hpE, hE, hin⟩
  have HP : Hid (∀ w' qb cp, RT w' fb mb rb tb sb P len far left B (.slice (some ⟨qb, 0, none⟩) 1 cp) cn → TrunAt w' qb #[.int .i64 a, .int .i64 e0, .int .i64 cn, .int .i64 wd, .int .i64 sa, .int .i64 fa, .int .u32 sz, .int .u32 x, .bool hs, .bool b, .int .u32 sz, .int .u32 fl, .bool hs, .bool hf] → Below N w0 w' → post (.returned (.tuple #[.int .i64 (offAt far a (szOf B e0 wd sa sz) cn), .nilIface])) w') := hpost
  have HO : Hid ((1 ≤ cn → (hs = true ∨ 0 ≤ sa) ∧ (b = true ∨ 0 ≤ fa)) ∧ (2 ≤ cn → (hs = true ∨ 0 ≤ sa) ∧ (hf = true ∨ 0 ≤ fa))) := ⟨hone, htwo⟩
  obtain ⟨m, hm, hm1⟩ : ∃ m : Nat, m = min cn 2 ∧ (if (2 : Int) < (cn : Int) then (2 : Int) else (cn : Int)) = m := ⟨min cn 2, rfl, by split <;> omega⟩
  have hmc : m ≤ cn := by omega
  have hm2 : m ≤ 2 := by omega
  clear hRT hbl hbox hdf hfi hent hB hpE hE hin hpost hone htwo hm
  conv => arg 2; whnf
  conv => arg 4; zeta
  refine wp_seq_k fun KB hKB => ?_
  go_cut [30, 31, 32, 127, 128] (fun _ _ _ _ _ wx => Hid (Below wA.heap.size wA wx))
  case first =>
    go_wp2_with fail
    go_loopw [30, 31, 32, 128] (fun _ _ _ i wr => ∃ k : Nat, k ≤ m ∧ i = .int .i64 k ∧ Hid (Below wA.heap.size wA wr)) (fun _ _ _ i _ => m - (intOf i).toNat)
    case atStart => exact ⟨0, Nat.zero_le _, rfl, Below.refl _ _⟩
    case round =>
      obtain ⟨k, hk, rfl, HB⟩ := hrel
      by_cases hlt : k < m
      · have d : ∀ i, wr.cell? ⟨kb + 1, i, none⟩ = (#[.int .u32 sz, .int .u32 fl, .bool hs, .bool hf] : Array Value)[i]? := by intro i; rw [HB.out.cell (lt_of_block HAll.out.2.2.2.1)]; simp [World.cell?, HAll.out.2.2.2.1]
        have f : ∀ i, wr.cell? ⟨fi, i, none⟩ = (#[.int .u32 sz, .int .u32 x, .bool hs, .bool b] : Array Value)[i]? := by intro i; rw [HB.out.cell (lt_of_block HAll.out.2.2.2.2)]; simp [World.cell?, HAll.out.2.2.2.2]
        have HB2 : Hid (∀ o, Below wA.heap.size wA (wr.alloc o)) := fun o => HB.out.alloc HB.out.size o
        have lD : kb + 1 < wr.heap.size := Nat.lt_of_lt_of_le (lt_of_block HAll.out.2.2.2.1) HB.out.size
        have lF : fi < wr.heap.size := Nat.lt_of_lt_of_le (lt_of_block HAll.out.2.2.2.2) HB.out.size
        by_cases hk0 : k = 0
        · have hk0' : ((k : Int) == 0) = true := by simp [hk0]
          obtain ⟨h1, h2⟩ := two_or (HO.out.1 (by omega))
          clear hk0
          rcases h1 with rfl | ⟨rfl, h1⟩ <;> rcases h2 with rfl | ⟨rfl, h2⟩
          all_goals
            go_wp2
            go_roundw
            case rel => exact ⟨k + 1, by omega, by go_num, HB2.out _⟩
            case measure => simp [intOf]; omega
        · have hk0' : ((k : Int) == 0) = false := by simp [hk0]
          obtain ⟨h1, h2⟩ := two_or (HO.out.2 (by omega))
          rcases h1 with rfl | ⟨rfl, h1⟩ <;> rcases h2 with rfl | ⟨rfl, h2⟩
          all_goals
            go_wp2
            go_roundw
            case rel => exact ⟨k + 1, by omega, by go_num, HB2.out _⟩
            case measure => simp [intOf]; omega
      · go_wp2
        go_meet
        exact HB
  case rest =>
    have HB : Hid (Below wA.heap.size wA wc) := hcut
    have hsame : ∀ j, j < wA.heap.size → wc.heap[j]? = wA.heap[j]? := fun j hj => HB.out.block j hj
    refine hKB _ _ ?_
    exact rt_44 N fb mb rb tb sb P len kb fi Q o lE cn e0 bd en pE B a far left sz fl x wd sa fa t0 t1 t2 t3 st hs hf b post w0 _ _ _ _ _ _ _ _ _ _ _ _ _ _ _ _ _ _ _ _ _ _ _ _ _ _ _ _ _ _ _ _ _ _ _ _ _ _ _ _ _ _ _ _ _ _ _ _ _ _ _ _ _ _ _ _ _ _ _ _ _ _ _ _ _ _ _ _ _ _ _ _ _ _ _ _ _ _ _ _ _ _ _ _ _ _ _ _ _ _ _ _ _ _ _ _ _ _ _ _ _ _ _ _ _ _ _ _ _ _ _ _ _ _ _ _ _ _ _ _ _ _ _ _ _ _ _ _ _ _ _ _ _ _ _ _ _ _ _ _ _ _ _ _ _ _ _ _ _ _ _ _ _ _ _ _ _ _ _ _ _ _ _ _ _ _ _ _ _ _ _ _ _ _ _ _ _ _ _ _ _ _ _ _ _ _ _ _ _ _ _ _ _ _ _ _ _ _ _ _ _ _ _ _ _ _ _ _ _ _ _ _ _ _ _ _ _ _ _ _ _ _ _ _ _ _ _ _ _ _ (HAll.out.1.step HB.out) (HAll.out.2.1.trans (HB.out.mono (Nat.le_of_lt (Nat.lt_of_le_of_lt hN (lt_of_block HAll.out.1.sbh))))) hN hQs ((hsame _ (lt_of_block HAll.out.2.2.1)).trans HAll.out.2.2.1) ((hsame _ (lt_of_block HAll.out.2.2.2.1)).trans HAll.out.2.2.2.1) ((hsame _ (lt_of_block HAll.out.2.2.2.2)).trans HAll.out.2.2.2.2)
        HNum.out.1 hen hlen HNum.out.2 hcn hl hsz0 hsz1 ha0 ha1 hf0 hf1 hsa1 hw0 hw1 HE.out.1 (fun h1 h2 i hi => (HB.out.cell (lt_of_cell (HE.out.2.1 h1 h2 i hi))).trans (HE.out.2.1 h1 h2 i hi)) HE.out.2.2 HP.out
end Go.Proofs.Qxb6613648aFmt

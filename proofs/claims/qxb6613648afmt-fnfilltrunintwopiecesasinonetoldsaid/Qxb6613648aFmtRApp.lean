/-
  readTrun: the run is appended to the track's source.
-/
import Derived.Test.Qxb6613648aFmtREnd
import Derived.Deep.RegionLawGrows
import Derived.Deep.RegionHeldLaw
import Derived.BigRegion
namespace Go.Proofs.Qxb6613648aFmt
open Go.RowKit
set_option linter.unusedVariables false
set_option linter.unusedSimpArgs false
attribute [local go_sem] setCell_drewN alloc_drewN

/-- 'append' of some elements to nil, as one step of a region that draws. -/
theorem step_append_nil {P : Program} {ops : Array Oper} {o : Oper} {a : Act} {w : World} {K : Act → World → Prop} {Q : Exit → Act → World → Prop} {E : Prop}
    (hg : o.guard = none) (s x : Operand) (t : TypeId) (hop : o.op = Op.call { callee := Callee.builtin Builtin.append, args := #[s, x], argTypes := #[t, t] })
    (e : TypeId) (i : TypeInfo) (z : Value) (h1 : P.underlying t = some (.slice e)) (h2 : P.info? e = some i) (h3 : i.zero = some z)
    (hs : a.eval s = .slice none 0 0) (ad : Addr) (n c : Nat) (news : List Value) (hx : a.eval x = .slice (some ad) n c) (hn : news.length = n * i.size) (hc : ∀ j u, news[j]? = some u → w.cell? (ad.add j) = some u)
    (h0 : 0 < n) (h63 : (n : Int) ≤ 9223372036854775807) (h48 : n * i.bytes ≤ 281474976710656)
    (hK : ∀ g, K (a.put o.dst (.slice (some ⟨w.heap.size, 0, none⟩) n g)) (w.drew.alloc (.cells (news.toArray ++ Builtin.zeroCells z.cells (g - n)) e))) :
    if Region.wanted o (yielded ops a.tmps) = true then Oper.wp P o a w K Q else E := by
  have hw : Region.wanted o (yielded ops a.tmps) = true := by simp [Region.wanted, hg]
  rw [if_pos hw]
  have hrun := run_append_nil (P := P) w t o.type e i z h1 h2 h3 ad n c news hn hc h0 h63 h48
  unfold Oper.wp
  simp [execOp, hop, resolve, invoke, builtin, hs, hx, hrun, Result.andThen]
  exact hK _

/-- What the reader's blocks hold. -/
structure RT (w : World) (fb mb rb tb sb P len : Nat) (far left : Int) (B : Nat → Int) (truns : Value) (cnt : Int) : Prop where
  fbh : ∃ Fc, w.heap[fb]? = some (.cells Fc 107 (0, 0)) ∧ Fc[0]? = some (.pointer (some ⟨mb, 0, none⟩))
  mbh : ∃ mv, w.heap[mb]? = some (.cells #[.iface 90 (.pointer (some ⟨rb, 0, none⟩)), .int .i64 len, .int .i64 far, .pointer mv, .pointer none, .int .u64 left, .string ⟨#[]⟩, .int .i64 0] 103 (0, 0))
  rbh : w.heap[rb]? = some (.cells #[.slice (some ⟨P, 0, none⟩) len len, .int .i64 0, .int .i64 (-1)] 141 (0, 0))
  tbh : w.heap[tb]? = some (.cells #[.int .u32 1, .string ⟨#[]⟩, .slice none 0 0, .pointer (some ⟨sb, 0, none⟩)] 119 (0, 0))
  sbh : w.heap[sb]? = some (.cells #[.iface 90 (.pointer (some ⟨rb, 0, none⟩)), .int .i64 far, .pointer none, .pointer none, truns, .int .i64 cnt, .slice none 0 0, .slice none 0 0, .slice none 0 0] 128 (0, 0))
  row : Row w P len B

theorem lt_of_block {w : World} {k : Nat} {o : Obj} (h : w.heap[k]? = some o) : k < w.heap.size := (Array.getElem?_eq_some_iff.1 h).1

theorem RT.step {w w' : World} {fb mb rb tb sb P len : Nat} {far left : Int} {B : Nat → Int} {truns : Value} {cnt : Int} (h : RT w fb mb rb tb sb P len far left B truns cnt) (hb : Below w.heap.size w w') : RT w' fb mb rb tb sb P len far left B truns cnt := by
  obtain ⟨Fc, f1, f2⟩ := h.fbh
  obtain ⟨mv, m1⟩ := h.mbh
  exact ⟨⟨Fc, (hb.block _ (lt_of_block f1)).trans f1, f2⟩, ⟨mv, (hb.block _ (lt_of_block m1)).trans m1⟩, (hb.block _ (lt_of_block h.rbh)).trans h.rbh, (hb.block _ (lt_of_block h.tbh)).trans h.tbh, (hb.block _ (lt_of_block h.sbh)).trans h.sbh, h.row.below hb h.row.lt⟩

/-- A cell of the source is set. -/
theorem RT.put_sb {w : World} {fb mb rb tb sb P len : Nat} {far left : Int} {B : Nat → Int} {truns : Value} {cnt : Int} (h : RT w fb mb rb tb sb P len far left B truns cnt) (i : Nat) (v : Value) (truns' : Value) (cnt' : Int)
    (he : (#[.iface 90 (.pointer (some ⟨rb, 0, none⟩)), .int .i64 far, .pointer none, .pointer none, truns, .int .i64 cnt, .slice none 0 0, .slice none 0 0, .slice none 0 0] : Array Value).setIfInBounds i v = #[.iface 90 (.pointer (some ⟨rb, 0, none⟩)), .int .i64 far, .pointer none, .pointer none, truns', .int .i64 cnt', .slice none 0 0, .slice none 0 0, .slice none 0 0]) :
    RT (w.setCell ⟨sb, i, none⟩ v) fb mb rb tb sb P len far left B truns' cnt' := by
  obtain ⟨Fc, f1, f2⟩ := h.fbh
  obtain ⟨mv, m1⟩ := h.mbh
  have hs := h.sbh
  have hne : ∀ k {o : Obj}, w.heap[k]? = some o → (∀ c f, o ≠ .cells c 128 f) → (w.setCell ⟨sb, i, none⟩ v).heap[k]? = some o := fun k o hk ho => by
    have hk' : k ≠ sb := by
      intro e
      subst e
      rw [hs] at hk
      exact ho _ _ (Option.some.inj hk).symm
    exact (Below.heap_setCell _ _ _ _ hk').trans hk
  refine ⟨⟨Fc, hne _ f1 (by simp), f2⟩, ⟨mv, hne _ m1 (by simp)⟩, hne _ h.rbh (by simp), hne _ h.tbh (by simp), ?_, ?_⟩
  · simp only [World.setCell, Array.getElem?_modify, hs]
    simp only [if_true, Option.map_some]
    rw [← he]
    rfl
  · obtain ⟨cur, r1, r2⟩ := h.row
    exact ⟨cur, hne _ r1 (by simp), r2⟩

/-- The one run at block qb. -/
def TrunAt (w : World) (qb : Nat) (T : Array Value) : Prop := ∃ cur, w.heap[qb]? = some (.cells cur 130 (0, 0)) ∧ ∀ i, i < 14 → cur[i]? = T[i]?

theorem TrunAt.cell {w : World} {qb : Nat} {T : Array Value} (h : TrunAt w qb T) {i : Nat} (hi : i < 14) : w.cell? ⟨qb, i, none⟩ = T[i]? := by
  obtain ⟨cur, h1, h2⟩ := h
  simp [World.cell?, h1, h2 i hi]

theorem TrunAt.of_block {w w' : World} {qb : Nat} {T : Array Value} (h : TrunAt w qb T) (hb : w'.heap[qb]? = w.heap[qb]?) : TrunAt w' qb T := by
  obtain ⟨cur, h1, h2⟩ := h
  exact ⟨cur, hb.trans h1, h2⟩

theorem keepW {w : World} {sb k i : Nat} {V v : Value} {o1 o2 : Obj} (h : w.cell? ⟨k, i, none⟩ = some v) (hne : sb ≠ k) : ((((w.setCell ⟨sb, 4, none⟩ V).alloc o1).alloc o2).drew.drew).cell? ⟨k, i, none⟩ = some v := by
  have hlt := lt_of_cell h
  have hs : (w.setCell ⟨sb, 4, none⟩ V).heap.size = w.heap.size := by simp [World.setCell]
  refine (World.cell?_of_block (w := w) ?_).trans h
  show (((w.setCell ⟨sb, 4, none⟩ V).alloc o1).alloc o2).heap[k]? = _
  rw [Below.heap_alloc _ _ _ (by simp [hs]; omega), Below.heap_alloc _ _ _ (by omega), Below.heap_setCell _ _ _ _ (Ne.symm hne)]

theorem info130 : (Tryf.prog.info? 130).map (fun i => (i.zero, i.size, i.bytes)) = some (some (.agg #[.int .i64 0, .int .i64 0, .int .i64 0, .int .i64 0, .int .i64 0, .int .i64 0, .int .u32 0, .int .u32 0, .bool false, .bool false, .int .u32 0, .int .u32 0, .bool false, .bool false]), 14, 72) := by kernel_rfl

/-- The world behind the append. -/
def Appended (N : Nat) (w0 wA : World) (fb mb rb tb sb P len : Nat) (far left : Int) (B : Nat → Int) (T : Array Value) (wx : World) : Prop :=
  ∃ qb cp, RT wx fb mb rb tb sb P len far left B (.slice (some ⟨qb, 0, none⟩) 1 cp) 0 ∧ TrunAt wx qb T ∧ Below N w0 wx ∧ ∀ k, k < wA.heap.size → k ≠ sb → wx.heap[k]? = wA.heap[k]?

theorem appended {N fb mb rb tb sb P len : Nat} {far left : Int} {B : Nat → Int} {w0 wA : World} (T Z : Array Value) (hT : T.size = 14) (hRT : RT wA fb mb rb tb sb P len far left B (.slice none 0 0) 0) (hbl : Below N w0 wA) (hN : N ≤ sb) (g : Nat) :
    Appended N w0 wA fb mb rb tb sb P len far left B T ((((wA.setCell ⟨sb, 4, none⟩ (.slice (some ⟨wA.heap.size + 1, 0, none⟩) 1 g)).alloc (.cells T 130)).alloc (.cells (T ++ Z) 130)).drew.drew) := by
  have hs : (wA.setCell ⟨sb, 4, none⟩ (.slice (some ⟨wA.heap.size + 1, 0, none⟩) 1 g)).heap.size = wA.heap.size := by simp [World.setCell]
  have h1 := hRT.put_sb 4 (.slice (some ⟨wA.heap.size + 1, 0, none⟩) 1 g) (.slice (some ⟨wA.heap.size + 1, 0, none⟩) 1 g) 0 rfl
  have hsz := hbl.size
  have hsb := lt_of_block hRT.sbh
  have hN2 : N ≤ wA.heap.size := by omega
  refine ⟨wA.heap.size + 1, g, h1.step (((((Below.refl _ _).alloc (Nat.le_refl _) _).alloc (by simp) _).drew).drew), ⟨T ++ Z, ?_, fun i hi => by rw [Array.getElem?_append_left (by omega)]⟩, (((((hbl.setCell hN _).alloc (by omega) _).alloc (by simp [hs]; omega) _).drew).drew), fun k hk hne => ?_⟩
  · show (((wA.setCell ⟨sb, 4, none⟩ (.slice (some ⟨wA.heap.size + 1, 0, none⟩) 1 g)).alloc (.cells T 130)).alloc (.cells (T ++ Z) 130)).heap[wA.heap.size + 1]? = _
    have e : ((wA.setCell ⟨sb, 4, none⟩ (.slice (some ⟨wA.heap.size + 1, 0, none⟩) 1 g)).alloc (.cells T 130)).heap.size = wA.heap.size + 1 := by simp [hs]
    have h9 : ∀ (w : World) (o : Obj), (w.alloc o).heap[w.heap.size]? = some o := fun w o => by show (w.heap.push o)[w.heap.size]? = _; simp
    have := h9 ((wA.setCell ⟨sb, 4, none⟩ (.slice (some ⟨wA.heap.size + 1, 0, none⟩) 1 g)).alloc (.cells T 130)) (.cells (T ++ Z) 130)
    rw [e] at this
    exact this
  · show (((wA.setCell ⟨sb, 4, none⟩ (.slice (some ⟨wA.heap.size + 1, 0, none⟩) 1 g)).alloc (.cells T 130)).alloc (.cells (T ++ Z) 130)).heap[k]? = _
    rw [Below.heap_alloc _ _ _ (by simp [hs]; omega), Below.heap_alloc _ _ _ (by omega), Below.heap_setCell _ _ _ _ hne]

set_option maxRecDepth 1000000 in
set_option maxHeartbeats 4000000 in
theorem rt_44 (N fb mb rb tb sb P len kb fi Q o lE cn e0 bd en : Nat) (pE : Addr) (B : Nat → Int) (a far left sz fl x wd sa fa t0 t1 t2 t3 st : Int) (hs hf b : Bool) (post : Ending → World → Prop) (w0 wA : World) (u1 u3 u4 u5 u6 u8 u10 u11 u12 u13 u14 u15 u16 u17 u18 u19 u25 u26 u29 u30 u31 u32 u33 u34 u35 u36 u37 u38 u39 u40 u41 u42 u43 u44 u45 u46 u47 u48 u49 u50 u51 u52 u53 u54 u55 u56 u57 u58 u59 u60 u61 u62 u63 u64 u65 u66 u67 u68 u69 u70 u71 u72 u73 u74 u75 u76 u77 u78 u79 u80 u81 u82 u83 u84 u85 u86 u87 u88 u89 u90 u91 u92 u93 u94 u95 u96 u97 u98 u99 u100 u101 u102 u103 u104 u105 u106 u107 u108 u109 u110 u111 u112 u113 u114 u115 u116 u117 u118 u119 u120 u121 u122 u123 u124 u125 u126 u127 u128 u129 u130 u131 u132 u133 u134 u135 u136 u137 u138 u139 u140 u141 u142 u143 u144 u145 u146 u147 u148 u149 u150 u151 u152 u153 u154 u155 u156 u157 u158 u159 u160 u161 u162 u163 u164 u165 u166 u167 u168 u169 u170 u171 u172 u173 u174 u175 u176 u177 u178 u179 u180 u181 u182 u183 u184 u185 u186 u187 u188 u189 u190 u191 u192 u193 u194 u195 u196 u197 u198 u199 u200 u201 u202 u203 u204 u205 u206 u207 u208 u209 u210 u211 u212 u213 u214 u215 u216 u217 u218 u219 u220 u221 u222 u223 u224 u225 u226 u227 u228 u229 u230 u231 u232 u233 u234 u235 u236 u237 u238 u239 : Value)
    (hRT : RT wA fb mb rb tb sb P len far left B (.slice none 0 0) 0) (hbl : Below N w0 wA) (hN : N ≤ sb) (hQs : Q ≠ sb)
    (hbox : wA.heap[kb]? = some (.cells #[.int .u8 t0, .int .u8 t1, .int .u8 t2, .int .u8 t3, .int .i64 st, .int .i64 bd, .int .i64 en] 114 (0, 0))) (hdf : wA.heap[kb + 1]? = some (.cells #[.int .u32 sz, .int .u32 fl, .bool hs, .bool hf] 109 (0, 0))) (hfi : wA.heap[fi]? = some (.cells #[.int .u32 sz, .int .u32 x, .bool hs, .bool b] 109 (0, 0)))
    (hent : (en : Int) - lE = e0) (hen : en ≤ len) (hlen : len ≤ 1048576)
    (hB : Byte B) (hcn : cn ≤ 65536) (hl : lE ≤ 1048576) (hsz0 : 0 ≤ sz) (hsz1 : sz ≤ 4294967295) (ha0 : -2147483648 ≤ a) (ha1 : a ≤ 4611686020574871552) (hf0 : 0 ≤ far) (hf1 : far ≤ 4611686018427387904)
    (hsa1 : sa ≤ 16) (hw0 : 0 ≤ wd) (hw1 : wd ≤ 16) (hpE : 0 ≤ sa → 0 < cn → pE = ⟨Q, o, none⟩) (hE : 0 ≤ sa → 0 < cn → Bytes wA Q o lE (fun i => B (e0 + i))) (hin : 0 ≤ sa → ∀ j : Nat, j < cn → (j : Int) * wd + sa + 4 ≤ lE)
    (hpost : ∀ w' qb cp, RT w' fb mb rb tb sb P len far left B (.slice (some ⟨qb, 0, none⟩) 1 cp) cn → TrunAt w' qb #[.int .i64 a, .int .i64 e0, .int .i64 cn, .int .i64 wd, .int .i64 sa, .int .i64 fa, .int .u32 sz, .int .u32 x, .bool hs, .bool b, .int .u32 sz, .int .u32 fl, .bool hs, .bool hf] → Below N w0 w' → post (.returned (.tuple #[.int .i64 (offAt far a (szOf B e0 wd sa sz) cn), .nilIface])) w') :
    Code.wp Tryf.prog ((Tryf.f50.body.bind (fromReg 44)).getD .skip) (bodyPost Tryf.prog Tryf.f50 post) ⟨#[.pointer (some ⟨fb, 0, none⟩), u1, .pointer (some ⟨tb, 0, none⟩), u3, u4, u5, u6, .pointer (some ⟨kb, 0, none⟩), u8, .pointer (some ⟨kb + 1, 0, none⟩), u10, u11, u12, u13, u14, u15, u16, u17, u18, u19, .int .i64 a, .pointer (some ⟨fi, 0, none⟩), .int .i64 sa, .int .i64 fa, .int .i64 wd, u25, u26, .slice (some pE) lE lE, .int .i64 cn, u29, u30, u31, u32, u33, u34, u35, u36, u37, u38, u39, u40, u41, u42, u43, u44, u45, u46, u47, u48, u49, u50, u51, u52, u53, u54, u55, u56, u57, u58, u59, u60, u61, u62, u63, u64, u65, u66, u67, u68, u69, u70, u71, u72, u73, u74, u75, u76, u77, u78, u79, u80, u81, u82, u83, u84, u85, u86, u87, u88, u89, u90, u91, u92, u93, u94, u95, u96, u97, u98, u99, u100, u101, u102, u103, u104, u105, u106, u107, u108, u109, u110, u111, u112, u113, u114, u115, u116, u117, u118, u119, u120, u121, u122, u123, u124, u125, u126, u127, u128, u129, u130, u131, u132, u133, u134, u135, u136, u137, u138, u139, u140, u141, u142, u143, u144, u145, u146, u147, u148, u149, u150, u151, u152, u153, u154, u155, u156, u157, u158, u159, u160, u161, u162, u163, u164, u165, u166, u167, u168, u169, u170, u171, u172, u173, u174, u175, u176, u177, u178, u179, u180, u181, u182, u183, u184, u185, u186, u187, u188, u189, u190, u191, u192, u193, u194, u195, u196, u197, u198, u199, u200, u201, u202, u203, u204, u205, u206, u207, u208, u209, u210, u211, u212, u213, u214, u215, u216, u217, u218, u219, u220, u221, u222, u223, u224, u225, u226, u227, u228, u229, u230, u231, u232, u233, u234, u235, u236, u237, u238, u239], []⟩ wA := by
  have HRT : Hid (RT wA fb mb rb tb sb P len far left B (.slice none 0 0) 0) := hRT
  have cS : ∀ i, wA.cell? ⟨sb, i, none⟩ = (#[.iface 90 (.pointer (some ⟨rb, 0, none⟩)), .int .i64 far, .pointer none, .pointer none, .slice none 0 0, .int .i64 0, .slice none 0 0, .slice none 0 0, .slice none 0 0] : Array Value)[i]? := by intro i; simp [World.cell?, hRT.sbh]
  have fS : ∀ i, wA.frozen? ⟨sb, i, none⟩ = false := by intro i; simp [World.frozen?, hRT.sbh]
  have cT : ∀ i, wA.cell? ⟨tb, i, none⟩ = (#[.int .u32 1, .string ⟨#[]⟩, .slice none 0 0, .pointer (some ⟨sb, 0, none⟩)] : Array Value)[i]? := by intro i; simp [World.cell?, hRT.tbh]
  have cB : ∀ i, wA.cell? ⟨kb, i, none⟩ = (#[.int .u8 t0, .int .u8 t1, .int .u8 t2, .int .u8 t3, .int .i64 st, .int .i64 bd, .int .i64 en] : Array Value)[i]? := by intro i; simp [World.cell?, hbox]
  have cD : ∀ i, wA.cell? ⟨kb + 1, i, none⟩ = (#[.int .u32 sz, .int .u32 fl, .bool hs, .bool hf] : Array Value)[i]? := by intro i; simp [World.cell?, hdf]
  have cF : ∀ i, wA.cell? ⟨fi, i, none⟩ = (#[.int .u32 sz, .int .u32 x, .bool hs, .bool b] : Array Value)[i]? := by intro i; simp [World.cell?, hfi]
  have lS : sb < wA.heap.size := lt_of_block hRT.sbh
  have lB : kb < wA.heap.size := lt_of_block hbox
  have lD : kb + 1 < wA.heap.size := lt_of_block hdf
  have lF : fi < wA.heap.size := lt_of_block hfi
  have HBox : Hid (wA.heap[kb]? = some (.cells #[.int .u8 t0, .int .u8 t1, .int .u8 t2, .int .u8 t3, .int .i64 st, .int .i64 bd, .int .i64 en] 114 (0, 0)) ∧ wA.heap[kb + 1]? = some (.cells #[.int .u32 sz, .int .u32 fl, .bool hs, .bool hf] 109 (0, 0)) ∧ wA.heap[fi]? = some (.cells #[.int .u32 sz, .int .u32 x, .bool hs, .bool b] 109 (0, 0))) := ⟨hbox, hdf, hfi⟩
  have HE : Hid ((0 ≤ sa → 0 < cn → pE = ⟨Q, o, none⟩) ∧ (0 ≤ sa → 0 < cn → Bytes wA Q o lE (fun i => B (e0 + i))) ∧ (0 ≤ sa → ∀ j : Nat, j < cn → (j : Int) * wd + sa + 4 ≤ lE)) := ⟨hpE, hE, hin⟩
  have HP : Hid (∀ w' qb cp, RT w' fb mb rb tb sb P len far left B (.slice (some ⟨qb, 0, none⟩) 1 cp) cn → TrunAt w' qb #[.int .i64 a, .int .i64 e0, .int .i64 cn, .int .i64 wd, .int .i64 sa, .int .i64 fa, .int .u32 sz, .int .u32 x, .bool hs, .bool b, .int .u32 sz, .int .u32 fl, .bool hs, .bool hf] → Below N w0 w' → post (.returned (.tuple #[.int .i64 (offAt far a (szOf B e0 wd sa sz) cn), .nilIface])) w') := hpost
  have HBl : Hid (Below N w0 wA) := hbl
  have HBy : Hid (Byte B) := hB
  have hwe : IntKind.i64.wrap ((en : Int) - lE) = e0 := by rw [IntKind.wrap_i64]; omega
  clear hRT hbox hdf hfi hpE hE hin hpost hbl hB hent
  obtain ⟨i0, hi, hz0, hz1, hz2⟩ := info_parts info130
  have HNews : Hid (∀ (j : Nat) u, ([.int .i64 a, .int .i64 e0, .int .i64 cn, .int .i64 wd, .int .i64 sa, .int .i64 fa, .int .u32 sz, .int .u32 x, .bool hs, .bool b, .int .u32 sz, .int .u32 fl, .bool hs, .bool hf] : List Value)[j]? = some u → (wA.alloc (.cells #[.int .i64 a, .int .i64 e0, .int .i64 cn, .int .i64 wd, .int .i64 sa, .int .i64 fa, .int .u32 sz, .int .u32 x, .bool hs, .bool b, .int .u32 sz, .int .u32 fl, .bool hs, .bool hf] 130)).cell? (Addr.add ⟨wA.heap.size, 0, none⟩ j) = some u) := by
    intro j u h
    have : (Addr.add ⟨wA.heap.size, 0, none⟩ j) = ⟨wA.heap.size, j, none⟩ := by by_cases h0 : j = 0 <;> simp [Addr.add, h0]
    rw [this, alloc_cell]
    simpa using h
  have HL : Hid (([.int .i64 a, .int .i64 e0, .int .i64 cn, .int .i64 wd, .int .i64 sa, .int .i64 fa, .int .u32 sz, .int .u32 x, .bool hs, .bool b, .int .u32 sz, .int .u32 fl, .bool hs, .bool hf] : List Value).length = 1 * i0.size) := by show _ = _; rw [hz1]; rfl
  have HBt : Hid (1 * i0.bytes ≤ 281474976710656) := by show _ ≤ _; rw [hz2]; omega
  have ne1 : sb ≠ kb := by
    rintro rfl
    have h1 := HRT.out.sbh
    rw [HBox.out.1] at h1
    simp at h1
  have ne2 : sb ≠ kb + 1 := by
    intro e
    have h1 := HRT.out.sbh
    rw [e, HBox.out.2.1] at h1
    simp at h1
  have ne3 : sb ≠ fi := by
    rintro rfl
    have h1 := HRT.out.sbh
    rw [HBox.out.2.2] at h1
    simp at h1
  have b6 : wA.cell? ⟨kb, 6, none⟩ = some (.int .i64 en) := cB 6
  have f0 : wA.cell? ⟨fi, 0, none⟩ = some (.int .u32 sz) := cF 0
  have f1 : wA.cell? ⟨fi, 1, none⟩ = some (.int .u32 x) := cF 1
  have f2 : wA.cell? ⟨fi, 2, none⟩ = some (.bool hs) := cF 2
  have f3 : wA.cell? ⟨fi, 3, none⟩ = some (.bool b) := cF 3
  have d0 : wA.cell? ⟨kb + 1, 0, none⟩ = some (.int .u32 sz) := cD 0
  have d1 : wA.cell? ⟨kb + 1, 1, none⟩ = some (.int .u32 fl) := cD 1
  have d2 : wA.cell? ⟨kb + 1, 2, none⟩ = some (.bool hs) := cD 2
  have d3 : wA.cell? ⟨kb + 1, 3, none⟩ = some (.bool hf) := cD 3
  have s4 : wA.cell? ⟨sb, 4, none⟩ = some (.slice none 0 0) := cS 4
  have fz4 : wA.frozen? ⟨sb, 4, none⟩ = false := fS 4
  conv => arg 2; whnf
  go_upto_region 45 with fail
  go_cut [] (fun wx => Hid (Appended N w0 wA fb mb rb tb sb P len far left B #[.int .i64 a, .int .i64 e0, .int .i64 cn, .int .i64 wd, .int .i64 sa, .int .i64 fa, .int .u32 sz, .int .u32 x, .bool hs, .bool b, .int .u32 sz, .int .u32 fl, .bool hs, .bool hf] wx))
  case first =>
    refine wp_region_held_drew (S := (fun w' : World => w'.cell? ⟨kb, 6, none⟩ = some (.int .i64 en) ∧ w'.cell? ⟨fi, 0, none⟩ = some (.int .u32 sz) ∧ w'.cell? ⟨fi, 1, none⟩ = some (.int .u32 x) ∧ w'.cell? ⟨fi, 2, none⟩ = some (.bool hs) ∧ w'.cell? ⟨fi, 3, none⟩ = some (.bool b) ∧ w'.cell? ⟨kb + 1, 0, none⟩ = some (.int .u32 sz) ∧ w'.cell? ⟨kb + 1, 1, none⟩ = some (.int .u32 fl) ∧ w'.cell? ⟨kb + 1, 2, none⟩ = some (.bool hs) ∧ w'.cell? ⟨kb + 1, 3, none⟩ = some (.bool hf))) (by kernel_rfl) ?_ (fun hHeld => ?_)
    · go_keep
    refine wpAnyH_take (i := 0) (v := ?v0) rfl (by kernel_rfl) (by kernel_rfl) (by kernel_rfl) (fun _ _ _ h => h) (Or.inl ⟨by rfl, ?hy0⟩) (by assumption) ?rest0
    case hy0 =>
      intro w hSw
      (try dsimp only at hSw)
      go_simp
      try with_reducible rfl
    simp only [Act.put, List.setIfInBounds_toArray, List.set_cons_zero, List.set_cons_succ, List.getElem_toArray, List.getElem_cons_zero, List.getElem_cons_succ]
    refine wpAnyH_take (i := 1) (v := ?v1) rfl (by kernel_rfl) (by kernel_rfl) (by kernel_rfl) (fun _ _ _ h => h) (Or.inl ⟨by rfl, ?hy1⟩) (by assumption) ?rest1
    case hy1 =>
      intro w hSw
      (try dsimp only at hSw)
      go_simp
      try with_reducible rfl
    simp only [Act.put, List.setIfInBounds_toArray, List.set_cons_zero, List.set_cons_succ, List.getElem_toArray, List.getElem_cons_zero, List.getElem_cons_succ]
    refine wpAnyH_take (i := 2) (v := ?v2) rfl (by kernel_rfl) (by kernel_rfl) (by kernel_rfl) (fun _ _ _ h => h) (Or.inl ⟨by rfl, ?hy2⟩) (by assumption) ?rest2
    case hy2 =>
      intro w hSw
      (try dsimp only at hSw)
      go_simp
      try with_reducible rfl
    simp only [Act.put, List.setIfInBounds_toArray, List.set_cons_zero, List.set_cons_succ, List.getElem_toArray, List.getElem_cons_zero, List.getElem_cons_succ]
    refine wpAnyH_take (i := 3) (v := ?v3) rfl (by kernel_rfl) (by kernel_rfl) (by kernel_rfl) (fun _ _ _ h => h) (Or.inl ⟨by rfl, ?hy3⟩) (by assumption) ?rest3
    case hy3 =>
      intro w hSw
      (try dsimp only at hSw)
      go_simp
      try with_reducible rfl
    simp only [Act.put, List.setIfInBounds_toArray, List.set_cons_zero, List.set_cons_succ, List.getElem_toArray, List.getElem_cons_zero, List.getElem_cons_succ]
    refine wpAnyH_take (i := 5) (v := ?v5) rfl (by kernel_rfl) (by kernel_rfl) (by kernel_rfl) (fun _ _ _ h => h) (Or.inl ⟨by rfl, ?hy5⟩) (by assumption) ?rest5
    case hy5 =>
      intro w hSw
      (try dsimp only at hSw)
      go_simp
      try with_reducible rfl
    simp only [Act.put, List.setIfInBounds_toArray, List.set_cons_zero, List.set_cons_succ, List.getElem_toArray, List.getElem_cons_zero, List.getElem_cons_succ]
    refine wpAnyH_take (i := 6) (v := ?v6) rfl (by kernel_rfl) (by kernel_rfl) (by kernel_rfl) (fun _ _ _ h => h) (Or.inl ⟨by rfl, ?hy6⟩) (by assumption) ?rest6
    case hy6 =>
      intro w hSw
      (try dsimp only at hSw)
      go_simp
      try with_reducible rfl
    simp only [Act.put, List.setIfInBounds_toArray, List.set_cons_zero, List.set_cons_succ, List.getElem_toArray, List.getElem_cons_zero, List.getElem_cons_succ]
    refine wpAnyH_take (i := 7) (v := ?v7) rfl (by kernel_rfl) (by kernel_rfl) (by kernel_rfl) (fun _ _ _ h => h) (Or.inl ⟨by rfl, ?hy7⟩) (by assumption) ?rest7
    case hy7 =>
      intro w hSw
      (try dsimp only at hSw)
      go_simp
      try with_reducible rfl
    simp only [Act.put, List.setIfInBounds_toArray, List.set_cons_zero, List.set_cons_succ, List.getElem_toArray, List.getElem_cons_zero, List.getElem_cons_succ]
    refine wpAnyH_take (i := 8) (v := ?v8) rfl (by kernel_rfl) (by kernel_rfl) (by kernel_rfl) (fun _ _ _ h => h) (Or.inl ⟨by rfl, ?hy8⟩) (by assumption) ?rest8
    case hy8 =>
      intro w hSw
      (try dsimp only at hSw)
      go_simp
      try with_reducible rfl
    simp only [Act.put, List.setIfInBounds_toArray, List.set_cons_zero, List.set_cons_succ, List.getElem_toArray, List.getElem_cons_zero, List.getElem_cons_succ]
    refine wpAnyH_take (i := 9) (v := ?v9) rfl (by kernel_rfl) (by kernel_rfl) (by kernel_rfl) (fun _ _ _ h => h) (Or.inl ⟨by rfl, ?hy9⟩) (by assumption) ?rest9
    case hy9 =>
      intro w hSw
      (try dsimp only at hSw)
      go_simp
      try with_reducible rfl
    simp only [Act.put, List.setIfInBounds_toArray, List.set_cons_zero, List.set_cons_succ, List.getElem_toArray, List.getElem_cons_zero, List.getElem_cons_succ]
    refine wpAnyH_take (i := 10) (v := ?v10) rfl (by kernel_rfl) (by kernel_rfl) (by kernel_rfl) (fun _ _ _ h => h) (Or.inl ⟨by rfl, ?hy10⟩) (by assumption) ?rest10
    case hy10 =>
      intro w hSw
      (try dsimp only at hSw)
      go_simp
      try with_reducible rfl
    simp only [Act.put, List.setIfInBounds_toArray, List.set_cons_zero, List.set_cons_succ, List.getElem_toArray, List.getElem_cons_zero, List.getElem_cons_succ]
    refine wpAnyH_take (i := 11) (v := ?v11) rfl (by kernel_rfl) (by kernel_rfl) (by kernel_rfl) (fun _ _ _ h => h) (Or.inl ⟨by rfl, ?hy11⟩) (by assumption) ?rest11
    case hy11 =>
      intro w hSw
      (try dsimp only at hSw)
      go_simp
      try with_reducible rfl
    simp only [Act.put, List.setIfInBounds_toArray, List.set_cons_zero, List.set_cons_succ, List.getElem_toArray, List.getElem_cons_zero, List.getElem_cons_succ]
    refine wpAnyH_take (i := 12) (v := ?v12) rfl (by kernel_rfl) (by kernel_rfl) (by kernel_rfl) (fun _ _ _ h => h) (Or.inl ⟨by rfl, ?hy12⟩) (by assumption) ?rest12
    case hy12 =>
      intro w hSw
      (try dsimp only at hSw)
      go_simp
      try with_reducible rfl
    simp only [Act.put, List.setIfInBounds_toArray, List.set_cons_zero, List.set_cons_succ, List.getElem_toArray, List.getElem_cons_zero, List.getElem_cons_succ]
    refine wpAnyH_take (i := 13) (v := ?v13) rfl (by kernel_rfl) (by kernel_rfl) (by kernel_rfl) (fun _ _ _ h => h) (Or.inl ⟨by rfl, ?hy13⟩) (by assumption) ?rest13
    case hy13 =>
      intro w hSw
      (try dsimp only at hSw)
      go_simp
      try with_reducible rfl
    simp only [Act.put, List.setIfInBounds_toArray, List.set_cons_zero, List.set_cons_succ, List.getElem_toArray, List.getElem_cons_zero, List.getElem_cons_succ]
    refine wpAnyH_take (i := 14) (v := ?v14) rfl (by kernel_rfl) (by kernel_rfl) (by kernel_rfl) (fun _ _ _ h => h) (Or.inl ⟨by rfl, ?hy14⟩) (by assumption) ?rest14
    case hy14 =>
      intro w hSw
      (try dsimp only at hSw)
      go_simp
      try with_reducible rfl
    simp only [Act.put, List.setIfInBounds_toArray, List.set_cons_zero, List.set_cons_succ, List.getElem_toArray, List.getElem_cons_zero, List.getElem_cons_succ]
    refine wpAnyH_take (i := 15) (v := ?v15) rfl (by kernel_rfl) (by kernel_rfl) (by kernel_rfl) (fun _ _ _ h => h) (Or.inl ⟨by rfl, ?hy15⟩) (by assumption) ?rest15
    case hy15 =>
      intro w hSw
      (try dsimp only at hSw)
      go_simp
      try with_reducible rfl
    simp only [Act.put, List.setIfInBounds_toArray, List.set_cons_zero, List.set_cons_succ, List.getElem_toArray, List.getElem_cons_zero, List.getElem_cons_succ]
    refine wpAnyH_take (i := 16) (v := ?v16) rfl (by kernel_rfl) (by kernel_rfl) (by kernel_rfl) (fun _ _ _ h => h) (Or.inl ⟨by rfl, ?hy16⟩) (by assumption) ?rest16
    case hy16 =>
      intro w hSw
      (try dsimp only at hSw)
      go_simp
      try with_reducible rfl
    simp only [Act.put, List.setIfInBounds_toArray, List.set_cons_zero, List.set_cons_succ, List.getElem_toArray, List.getElem_cons_zero, List.getElem_cons_succ]
    refine wpAnyH_take (i := 17) (v := ?v17) rfl (by kernel_rfl) (by kernel_rfl) (by kernel_rfl) (fun _ _ _ h => h) (Or.inl ⟨by rfl, ?hy17⟩) (by assumption) ?rest17
    case hy17 =>
      intro w hSw
      (try dsimp only at hSw)
      go_simp
      try with_reducible rfl
    simp only [Act.put, List.setIfInBounds_toArray, List.set_cons_zero, List.set_cons_succ, List.getElem_toArray, List.getElem_cons_zero, List.getElem_cons_succ]
    refine wpAnyH_ready (rs := [4, 18]) (by kernel_rfl) (by simp) ?_
    refine AllReadyH.cons rfl (fun K hK => ?_) (AllReadyH.cons rfl (fun K hK => ?_) AllReadyH.nil)
    · go_simp
      refine hK.out _ _ ?_ (fun hHeld => ?_)
      · go_keep
      clear hK K
      try simp only [Act.put, List.setIfInBounds_toArray, List.set_cons_zero, List.set_cons_succ, List.getElem_toArray, List.getElem_cons_zero, List.getElem_cons_succ]
      refine wpAnyH_ready (rs := [18]) (by kernel_rfl) (by simp) ?_
      refine AllReadyH.cons rfl (fun K hK => ?_) AllReadyH.nil
      go_simp
      refine hK.out _ _ ?_ (fun hHeld => ?_)
      · go_keep
      clear hK K
      try simp only [Act.put, List.setIfInBounds_toArray, List.set_cons_zero, List.set_cons_succ, List.getElem_toArray, List.getElem_cons_zero, List.getElem_cons_succ]
      refine wpAnyH_ready (rs := [19]) (by kernel_rfl) (by simp) ?_
      refine AllReadyH.cons rfl (fun K hK => ?_) AllReadyH.nil
      refine step_append_nil rfl (.tmp 177) (.tmp 191) 124 rfl 130 i0 _ Tryf.underlying124 hi hz0 (by simp [Act.eval]) ⟨wA.heap.size, 0, none⟩ 1 1 [.int .i64 a, .int .i64 e0, .int .i64 cn, .int .i64 wd, .int .i64 sa, .int .i64 fa, .int .u32 sz, .int .u32 x, .bool hs, .bool b, .int .u32 sz, .int .u32 fl, .bool hs, .bool hf] (by simp [Act.eval]) HL.out HNews.out (by omega) (by omega) HBt.out ?_
      intro g
      refine hK.out _ _ ?_ (fun hHeld => ?_)
      · go_keep
      clear hK K
      try simp only [Act.put, List.setIfInBounds_toArray, List.set_cons_zero, List.set_cons_succ, List.getElem_toArray, List.getElem_cons_zero, List.getElem_cons_succ]
      refine wpAnyH_take (i := 20) (v := ?va20) rfl (by kernel_rfl) (by kernel_rfl) (by kernel_rfl) (fun _ _ _ h => h) (Or.inl ⟨by rfl, ?hya20⟩) (by assumption) ?resta20
      case hya20 =>
        intro w hSw
        (try dsimp only at hSw)
        go_simp
        try with_reducible rfl
      simp only [Act.put, List.setIfInBounds_toArray, List.set_cons_zero, List.set_cons_succ, List.getElem_toArray, List.getElem_cons_zero, List.getElem_cons_succ]
      refine wpAnyH_take (i := 21) (v := ?va21) rfl (by kernel_rfl) (by kernel_rfl) (by kernel_rfl) (fun _ _ _ h => h) (Or.inl ⟨by rfl, ?hya21⟩) (by assumption) ?resta21
      case hya21 =>
        intro w hSw
        (try dsimp only at hSw)
        go_simp
        try with_reducible rfl
      simp only [Act.put, List.setIfInBounds_toArray, List.set_cons_zero, List.set_cons_succ, List.getElem_toArray, List.getElem_cons_zero, List.getElem_cons_succ]
      refine wpAnyH_ready (rs := [22]) (by kernel_rfl) (by simp) ?_
      refine AllReadyH.cons rfl (fun K hK => ?_) AllReadyH.nil
      go_simp
      refine hK.out _ _ ?_ (fun hHeld => ?_)
      · exact ⟨keepW b6 ne1, keepW f0 ne3, keepW f1 ne3, keepW f2 ne3, keepW f3 ne3, keepW d0 ne2, keepW d1 ne2, keepW d2 ne2, keepW d3 ne2⟩
      clear hK K
      try simp only [Act.put, List.setIfInBounds_toArray, List.set_cons_zero, List.set_cons_succ, List.getElem_toArray, List.getElem_cons_zero, List.getElem_cons_succ]
      refine wpAnyH_done (by kernel_rfl) ?_ _
      go_wp2_with fail
      go_meet
      exact appended _ _ rfl HRT.out HBl.out hN g
    · go_simp
      refine hK.out _ _ ?_ (fun hHeld => ?_)
      · go_keep
      clear hK K
      try simp only [Act.put, List.setIfInBounds_toArray, List.set_cons_zero, List.set_cons_succ, List.getElem_toArray, List.getElem_cons_zero, List.getElem_cons_succ]
      refine wpAnyH_ready (rs := [4]) (by kernel_rfl) (by simp) ?_
      refine AllReadyH.cons rfl (fun K hK => ?_) AllReadyH.nil
      go_simp
      refine hK.out _ _ ?_ (fun hHeld => ?_)
      · go_keep
      clear hK K
      try simp only [Act.put, List.setIfInBounds_toArray, List.set_cons_zero, List.set_cons_succ, List.getElem_toArray, List.getElem_cons_zero, List.getElem_cons_succ]
      refine wpAnyH_ready (rs := [19]) (by kernel_rfl) (by simp) ?_
      refine AllReadyH.cons rfl (fun K hK => ?_) AllReadyH.nil
      refine step_append_nil rfl (.tmp 177) (.tmp 191) 124 rfl 130 i0 _ Tryf.underlying124 hi hz0 (by simp [Act.eval]) ⟨wA.heap.size, 0, none⟩ 1 1 [.int .i64 a, .int .i64 e0, .int .i64 cn, .int .i64 wd, .int .i64 sa, .int .i64 fa, .int .u32 sz, .int .u32 x, .bool hs, .bool b, .int .u32 sz, .int .u32 fl, .bool hs, .bool hf] (by simp [Act.eval]) HL.out HNews.out (by omega) (by omega) HBt.out ?_
      intro g
      refine hK.out _ _ ?_ (fun hHeld => ?_)
      · go_keep
      clear hK K
      try simp only [Act.put, List.setIfInBounds_toArray, List.set_cons_zero, List.set_cons_succ, List.getElem_toArray, List.getElem_cons_zero, List.getElem_cons_succ]
      refine wpAnyH_take (i := 20) (v := ?vb20) rfl (by kernel_rfl) (by kernel_rfl) (by kernel_rfl) (fun _ _ _ h => h) (Or.inl ⟨by rfl, ?hyb20⟩) (by assumption) ?restb20
      case hyb20 =>
        intro w hSw
        (try dsimp only at hSw)
        go_simp
        try with_reducible rfl
      simp only [Act.put, List.setIfInBounds_toArray, List.set_cons_zero, List.set_cons_succ, List.getElem_toArray, List.getElem_cons_zero, List.getElem_cons_succ]
      refine wpAnyH_take (i := 21) (v := ?vb21) rfl (by kernel_rfl) (by kernel_rfl) (by kernel_rfl) (fun _ _ _ h => h) (Or.inl ⟨by rfl, ?hyb21⟩) (by assumption) ?restb21
      case hyb21 =>
        intro w hSw
        (try dsimp only at hSw)
        go_simp
        try with_reducible rfl
      simp only [Act.put, List.setIfInBounds_toArray, List.set_cons_zero, List.set_cons_succ, List.getElem_toArray, List.getElem_cons_zero, List.getElem_cons_succ]
      refine wpAnyH_ready (rs := [22]) (by kernel_rfl) (by simp) ?_
      refine AllReadyH.cons rfl (fun K hK => ?_) AllReadyH.nil
      go_simp
      refine hK.out _ _ ?_ (fun hHeld => ?_)
      · exact ⟨keepW b6 ne1, keepW f0 ne3, keepW f1 ne3, keepW f2 ne3, keepW f3 ne3, keepW d0 ne2, keepW d1 ne2, keepW d2 ne2, keepW d3 ne2⟩
      clear hK K
      try simp only [Act.put, List.setIfInBounds_toArray, List.set_cons_zero, List.set_cons_succ, List.getElem_toArray, List.getElem_cons_zero, List.getElem_cons_succ]
      refine wpAnyH_done (by kernel_rfl) ?_ _
      go_wp2_with fail
      go_meet
      exact appended _ _ rfl HRT.out HBl.out hN g
  case rest =>
    have HAp : Hid (Appended N w0 wA fb mb rb tb sb P len far left B #[.int .i64 a, .int .i64 e0, .int .i64 cn, .int .i64 wd, .int .i64 sa, .int .i64 fa, .int .u32 sz, .int .u32 x, .bool hs, .bool b, .int .u32 sz, .int .u32 fl, .bool hs, .bool hf] wc) := hcut
    obtain ⟨w1, hw1⟩ : ∃ w1, w1 = wc := ⟨_, rfl⟩
    subst hw1
    obtain ⟨qb, cp, hRT1, hTr, hB1, hsame⟩ := HAp.out
    have HR1 : Hid (RT w1 fb mb rb tb sb P len far left B (.slice (some ⟨qb, 0, none⟩) 1 cp) 0) := hRT1
    have HT1 : Hid (TrunAt w1 qb #[.int .i64 a, .int .i64 e0, .int .i64 cn, .int .i64 wd, .int .i64 sa, .int .i64 fa, .int .u32 sz, .int .u32 x, .bool hs, .bool b, .int .u32 sz, .int .u32 fl, .bool hs, .bool hf] ∧ Below N w0 w1) := ⟨hTr, hB1⟩
    have HS1 : Hid (∀ k, k < wA.heap.size → k ≠ sb → w1.heap[k]? = wA.heap[k]?) := hsame
    have s5 : w1.cell? ⟨sb, 5, none⟩ = some (.int .i64 0) := by simp [World.cell?, hRT1.sbh]
    have fz5 : w1.frozen? ⟨sb, 5, none⟩ = false := by simp [World.frozen?, hRT1.sbh]
    clear hRT1 hTr hB1 hsame hcut HAp s4 fz4 b6 f0 f1 f2 f3 d0 d1 d2 d3 cS fS cT cB cD cF
    have HR2 : Hid (RT (w1.setCell ⟨sb, 5, none⟩ (.int .i64 cn)) fb mb rb tb sb P len far left B (.slice (some ⟨qb, 0, none⟩) 1 cp) cn) := HR1.out.put_sb 5 (.int .i64 cn) _ _ rfl
    have hqs : qb ≠ sb := by
      rintro rfl
      obtain ⟨cur, h1, _⟩ := HT1.out.1
      rw [HR1.out.sbh] at h1
      simp at h1
    have HT2 : Hid (TrunAt (w1.setCell ⟨sb, 5, none⟩ (.int .i64 cn)) qb #[.int .i64 a, .int .i64 e0, .int .i64 cn, .int .i64 wd, .int .i64 sa, .int .i64 fa, .int .u32 sz, .int .u32 x, .bool hs, .bool b, .int .u32 sz, .int .u32 fl, .bool hs, .bool hf] ∧ Below N w0 (w1.setCell ⟨sb, 5, none⟩ (.int .i64 cn))) := ⟨HT1.out.1.of_block (Below.heap_setCell _ _ _ _ hqs), HT1.out.2.setCell hN _⟩
    have HS2 : Hid (∀ k, k < wA.heap.size → k ≠ sb → (w1.setCell ⟨sb, 5, none⟩ (.int .i64 cn)).heap[k]? = wA.heap[k]?) := fun k hk hne => (Below.heap_setCell _ _ _ _ hne).trans (HS1.out k hk hne)
    go_upto_region 46 with fail
    go_cut [] (fun wx => wx = w1.setCell ⟨sb, 5, none⟩ (.int .i64 cn))
    case first =>
      go_wp2
      go_meet
      rfl
    case rest =>
      rename_i KB hKB
      subst hcut
      refine hKB _ _ ?_
      have kept : ∀ {k : Nat} {o : Obj}, wA.heap[k]? = some o → k ≠ sb → (w1.setCell ⟨sb, 5, none⟩ (.int .i64 cn)).heap[k]? = some o := fun h hne => (HS2.out _ (lt_of_block h) hne).trans h
      obtain ⟨Fc, g1, g2⟩ := HR2.out.fbh
      obtain ⟨mv, g3⟩ := HR2.out.mbh
      have c1 : (w1.setCell ⟨sb, 5, none⟩ (.int .i64 cn)).cell? ⟨fb, 0, none⟩ = some (.pointer (some ⟨mb, 0, none⟩)) := by simp only [World.cell?, g1]; exact g2
      have c2 : (w1.setCell ⟨sb, 5, none⟩ (.int .i64 cn)).cell? ⟨mb, 2, none⟩ = some (.int .i64 far) := by simp only [World.cell?, g3]; rfl
      have c3 : (w1.setCell ⟨sb, 5, none⟩ (.int .i64 cn)).cell? ⟨kb + 1, 0, none⟩ = some (.int .u32 sz) := by simp only [World.cell?, kept HBox.out.2.1 (Ne.symm ne2)]; rfl
      have c4 : (w1.setCell ⟨sb, 5, none⟩ (.int .i64 cn)).cell? ⟨fi, 0, none⟩ = some (.int .u32 sz) := by simp only [World.cell?, kept HBox.out.2.2 (Ne.symm ne3)]; rfl
      have hpost2 : ∀ w', Below (w1.setCell ⟨sb, 5, none⟩ (.int .i64 cn)).heap.size (w1.setCell ⟨sb, 5, none⟩ (.int .i64 cn)) w' → post (.returned (.tuple #[.int .i64 (offAt far a (szOf B e0 wd sa sz) cn), .nilIface])) w' := fun w' hb => by
        obtain ⟨cur, q1, q2⟩ := HT2.out.1
        exact HP.out w' qb cp (HR2.out.step hb) (HT2.out.1.of_block (hb.block _ (lt_of_block q1))) (HT2.out.2.trans (hb.mono (by have := lt_of_block HR2.out.sbh; omega)))
      by_cases hsa : 0 ≤ sa
      · exact rt_47_read fb mb (kb + 1) fi Q o lE lE cn e0 pE B a far sz wd sa post _ _ _ _ _ _ _ _ _ _ _ _ _ _ _ _ _ _ _ _ _ _ _ _ _ _ _ _ _ _ _ _ _ _ _ _ _ _ _ _ _ _ _ _ _ _ _ _ _ _ _ _ _ _ _ _ _ _ _ _ _ _ _ _ _ _ _ _ _ _ _ _ _ _ _ _ _ _ _ _ _ _ _ _ _ _ _ _ _ _ _ _ _ _ _ _ _ _ _ _ _ _ _ _ _ _ _ _ _ _ _ _ _ _ _ _ _ _ _ _ _ _ _ _ _ _ _ _ _ _ _ _ _ _ _ _ _ _ _ _ _ _ _ _ _ _ _ _ _ _ _ _ _ _ _ _ _ _ _ _ _ _ _ _ _ _ _ _ _ _ _ _ _ _ _ _ _ _ _ _ _ _ _ _ _ _ _ _ _ _ _ _ _ _ _ _ _ _ _ _ _ _ _ _ _ _ _ _ _ _ _ _ _ _ _ _ _ _ _ _ _ _ _ _ _ _ _ _ _ _ _ _ _ c1 c2 c3 c4 HBy.out hcn hl hsz0 hsz1 ha0 ha1 hf0 hf1 hpost2 hsa hsa1 hw0 hw1 rfl (HE.out.1 hsa) (fun h i hi => by
          have hq := HE.out.2.1 hsa h i hi
          refine (World.cell?_of_block (w := wA) (HS2.out Q (lt_of_cell hq) ?_)).trans hq
          exact hQs) (HE.out.2.2 hsa)
      · exact rt_47_plain fb mb (kb + 1) fi Q o lE lE cn e0 pE B a far sz wd sa post _ _ _ _ _ _ _ _ _ _ _ _ _ _ _ _ _ _ _ _ _ _ _ _ _ _ _ _ _ _ _ _ _ _ _ _ _ _ _ _ _ _ _ _ _ _ _ _ _ _ _ _ _ _ _ _ _ _ _ _ _ _ _ _ _ _ _ _ _ _ _ _ _ _ _ _ _ _ _ _ _ _ _ _ _ _ _ _ _ _ _ _ _ _ _ _ _ _ _ _ _ _ _ _ _ _ _ _ _ _ _ _ _ _ _ _ _ _ _ _ _ _ _ _ _ _ _ _ _ _ _ _ _ _ _ _ _ _ _ _ _ _ _ _ _ _ _ _ _ _ _ _ _ _ _ _ _ _ _ _ _ _ _ _ _ _ _ _ _ _ _ _ _ _ _ _ _ _ _ _ _ _ _ _ _ _ _ _ _ _ _ _ _ _ _ _ _ _ _ _ _ _ _ _ _ _ _ _ _ _ _ _ _ _ _ _ _ _ _ _ _ _ _ _ _ _ _ _ _ _ _ _ _ c1 c2 c3 c4 HBy.out hcn hl hsz0 hsz1 ha0 ha1 hf0 hf1 hpost2 hsa
end Go.Proofs.Qxb6613648aFmt

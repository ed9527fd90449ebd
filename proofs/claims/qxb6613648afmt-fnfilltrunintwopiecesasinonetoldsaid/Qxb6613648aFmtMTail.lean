/-
  modelTrun, its tail: the run's end summed up; the answer.
-/
import Derived.Test.Qxb6613648aFmtMHead
namespace Go.Proofs.Qxb6613648aFmt
open Go.RowKit
set_option linter.unusedVariables false
attribute [local go_sem] setCell_drewN alloc_drewN

structure MAt (w wr : World) (A D M : Array Value) : Prop where
  below : Below w.heap.size w wr
  aa : wr.heap[w.heap.size]? = some (.cells A 32 (0, 0))
  dd : wr.heap[w.heap.size + 1]? = some (.cells D 27 (0, 0))
  zz : wr.heap[w.heap.size + 1 + 1]? = some (.cells #[.bool false, .bool false, .int .i64 0, .int .i64 0, .int .i64 0, .int .i64 0, .int .i64 0, .int .i64 0, .int .i64 0, .int .u32 0, .int .u32 0, .bool false, .bool false] 57 (0, 0))
  mm : wr.heap[w.heap.size + 1 + 1 + 1]? = some (.cells M 57 (0, 0))
theorem MAt.step {w wr w' : World} {A D M : Array Value} (h : MAt w wr A D M) (hb : Below wr.heap.size wr w') : MAt w w' A D M := by
  have h0 := (Array.getElem?_eq_some_iff.1 h.aa).1
  have h1 := (Array.getElem?_eq_some_iff.1 h.dd).1
  have h2 := (Array.getElem?_eq_some_iff.1 h.zz).1
  have h3 := (Array.getElem?_eq_some_iff.1 h.mm).1
  exact ⟨h.below.trans (hb.mono h.below.size), (hb.block _ h0).trans h.aa, (hb.block _ h1).trans h.dd, (hb.block _ h2).trans h.zz, (hb.block _ h3).trans h.mm⟩
theorem heap_last (w : World) (o : Obj) : (w.alloc o).heap[w.heap.size]? = some o := by show (w.heap.push o)[w.heap.size]? = _; simp
theorem MAt.start (w : World) (A D M : Array Value) (n : Nat) : MAt w (((((w.alloc (.cells A 32)).alloc (.cells D 27)).alloc (.cells #[.bool false, .bool false, .int .i64 0, .int .i64 0, .int .i64 0, .int .i64 0, .int .i64 0, .int .i64 0, .int .i64 0, .int .u32 0, .int .u32 0, .bool false, .bool false] 57)).alloc (.cells M 57)).drewN n) A D M := by
  have e1 : (w.alloc (.cells A 32)).heap.size = w.heap.size + 1 := by simp
  have e2 : ((w.alloc (.cells A 32)).alloc (.cells D 27)).heap.size = w.heap.size + 1 + 1 := by simp
  have e3 : (((w.alloc (.cells A 32)).alloc (.cells D 27)).alloc (.cells #[.bool false, .bool false, .int .i64 0, .int .i64 0, .int .i64 0, .int .i64 0, .int .i64 0, .int .i64 0, .int .i64 0, .int .u32 0, .int .u32 0, .bool false, .bool false] 57)).heap.size = w.heap.size + 1 + 1 + 1 := by simp
  refine ⟨below_drewN (((((Below.refl w.heap.size w).alloc (Nat.le_refl _) _).alloc (by simp) _).alloc (by simp; omega) _).alloc (by simp; omega) _) n, ?_, ?_, ?_, ?_⟩
  · show ((((w.alloc (.cells A 32)).alloc (.cells D 27)).alloc (.cells #[.bool false, .bool false, .int .i64 0, .int .i64 0, .int .i64 0, .int .i64 0, .int .i64 0, .int .i64 0, .int .i64 0, .int .u32 0, .int .u32 0, .bool false, .bool false] 57)).alloc (.cells M 57)).heap[w.heap.size]? = _
    rw [Below.heap_alloc _ _ _ (by simp; omega), Below.heap_alloc _ _ _ (by simp; omega), Below.heap_alloc _ _ _ (by simp)]
    exact heap_last _ _
  · show ((((w.alloc (.cells A 32)).alloc (.cells D 27)).alloc (.cells #[.bool false, .bool false, .int .i64 0, .int .i64 0, .int .i64 0, .int .i64 0, .int .i64 0, .int .i64 0, .int .i64 0, .int .u32 0, .int .u32 0, .bool false, .bool false] 57)).alloc (.cells M 57)).heap[w.heap.size + 1]? = _
    rw [Below.heap_alloc _ _ _ (by simp), Below.heap_alloc _ _ _ (by simp), ← e1]
    exact heap_last _ _
  · show ((((w.alloc (.cells A 32)).alloc (.cells D 27)).alloc (.cells #[.bool false, .bool false, .int .i64 0, .int .i64 0, .int .i64 0, .int .i64 0, .int .i64 0, .int .i64 0, .int .i64 0, .int .u32 0, .int .u32 0, .bool false, .bool false] 57)).alloc (.cells M 57)).heap[w.heap.size + 1 + 1]? = _
    rw [Below.heap_alloc _ _ _ (by simp), ← e2]
    exact heap_last _ _
  · show ((((w.alloc (.cells A 32)).alloc (.cells D 27)).alloc (.cells #[.bool false, .bool false, .int .i64 0, .int .i64 0, .int .i64 0, .int .i64 0, .int .i64 0, .int .i64 0, .int .i64 0, .int .u32 0, .int .u32 0, .bool false, .bool false] 57)).alloc (.cells M 57)).heap[w.heap.size + 1 + 1 + 1]? = _
    rw [← e3]
    exact heap_last _ _
theorem MAt.put {w wr : World} {A D M : Array Value} (h : MAt w wr A D M) (i : Nat) (v : Value) : MAt w (wr.setCell ⟨w.heap.size + 1 + 1 + 1, i, none⟩ v) A D (M.setIfInBounds i v) := by
  refine ⟨h.below.setCell (by simp; omega) _, (Below.heap_setCell _ _ _ _ (by simp; omega)).trans h.aa, (Below.heap_setCell _ _ _ _ (by simp)).trans h.dd, (Below.heap_setCell _ _ _ _ (by simp)).trans h.zz, ?_⟩
  simp only [World.setCell, Array.getElem?_modify, h.mm]
  simp

set_option maxRecDepth 1000000 in
set_option maxHeartbeats 4000000 in
theorem model_tail (F len cap : Nat) (B : Nat → Int) (far left sz fl : Int) (bd en : Nat) (hs hf : Bool) (base next : Int) (w wA : World) (Ac : Array Value) (cnt a ent E wd sa fa x : Int) (b : Bool) (u2 u3 u4 u5 u6 u7 u8 u9 u10 u12 u13 u16 u17 u18 u19 u20 u21 u22 u23 u24 u25 u26 u27 u28 u29 u30 u31 u32 u33 u34 u35 u36 u37 u38 u39 u40 u41 u42 u43 u44 u45 u46 u47 u48 u49 u50 u51 u52 u53 u54 u55 u56 u57 u58 u59 u60 u61 u62 u63 u64 u65 u66 u67 u68 u69 u70 u71 u72 u73 u74 u75 u76 u77 u78 u79 u80 u81 u82 u83 u84 u85 u86 u87 u88 u89 u90 u91 u92 u93 u94 u95 u96 u97 u98 u99 u100 u101 u102 u103 u104 u105 u106 u107 u108 u109 u110 u111 u112 u113 u114 u115 u116 u117 u118 u119 u120 u121 u122 u123 u124 u125 u126 u127 u128 u129 u130 u131 u132 u133 u134 u135 u136 u137 u138 u139 u140 u141 u142 u143 u144 u145 u146 u147 u148 u149 u150 u151 u152 u153 u154 u155 u156 u157 u158 u159 u160 u161 u162 u163 u164 u165 u166 u167 u168 u169 u170 u171 u172 u173 u174 u175 u176 u177 u178 u179 u180 u181 u182 u183 u184 u185 u186 u187 u188 u189 u190 u191 u192 u193 u194 u195 u196 u197 u198 u199 u200 u201 u202 u203 u204 u205 u206 u207 u208 u209 u210 u211 u212 u213 u214 u215 u216 u217 u218 u219 u220 : Value)
    (hR : Row w F len B) (hB : Byte B) (h2 : en ≤ len) (h3 : len ≤ 1048576)
    (hl1 : left ≤ 65536) (hsz0 : 0 ≤ sz) (hsz1 : sz ≤ 4294967295) (hc0 : 0 ≤ cnt) (he0 : 0 ≤ ent) (hw0 : 0 ≤ wd) (hw1 : wd ≤ 16) (hs0 : -1 ≤ sa) (hs1 : sa ≤ 4) (hsw : 0 ≤ sa → sa + 4 ≤ wd) (ha0 : -2147483648 ≤ a) (ha1 : a ≤ 4611686020574871552)
    (hM : MFacts B bd en sz fl hs hf base next left cnt a ent wd sa fa sz x hs b)
    (hA : MAt w wA Ac #[.int .u32 sz, .int .u32 fl, .bool hs, .bool hf] #[.bool false, .bool true, .int .i64 cnt, .int .i64 a, .int .i64 ent, .int .i64 E, .int .i64 wd, .int .i64 sa, .int .i64 fa, .int .u32 sz, .int .u32 x, .bool hs, .bool b]) :
    Code.wp Tryf.prog ((Tryf.f24.body.bind (fromReg 38)).getD .skip) (bodyPost Tryf.prog Tryf.f24 fun e w' => MPost (MFacts B bd en sz fl hs hf base next left) e ∧ Below w.heap.size w w') ⟨#[.slice (some ⟨F, 0, none⟩) len cap, .int .i64 far, u2, u3, u4, u5, u6, u7, u8, u9, u10, .pointer (some ⟨w.heap.size + 1, 0, none⟩), u12, u13, .pointer (some ⟨w.heap.size + 1 + 1, 0, none⟩), .pointer (some ⟨w.heap.size + 1 + 1 + 1, 0, none⟩), u16, u17, u18, u19, u20, u21, u22, u23, u24, u25, u26, u27, u28, u29, u30, u31, u32, u33, u34, u35, u36, u37, u38, u39, u40, u41, u42, u43, u44, u45, u46, u47, u48, u49, u50, u51, u52, u53, u54, u55, u56, u57, u58, u59, u60, u61, u62, u63, u64, u65, u66, u67, u68, u69, u70, u71, u72, u73, u74, u75, u76, u77, u78, u79, u80, u81, u82, u83, u84, u85, u86, u87, u88, u89, u90, u91, u92, u93, u94, u95, u96, u97, u98, u99, u100, u101, u102, u103, u104, u105, u106, u107, u108, u109, u110, u111, u112, u113, u114, u115, u116, u117, u118, u119, u120, u121, u122, u123, u124, u125, u126, u127, u128, u129, u130, u131, u132, u133, u134, u135, u136, u137, u138, u139, u140, u141, u142, u143, u144, u145, u146, u147, u148, u149, u150, u151, u152, u153, u154, u155, u156, u157, u158, u159, u160, u161, u162, u163, u164, u165, u166, u167, u168, u169, u170, u171, u172, u173, u174, u175, u176, u177, u178, u179, u180, u181, u182, u183, u184, u185, u186, u187, u188, u189, u190, u191, u192, u193, u194, u195, u196, u197, u198, u199, u200, u201, u202, u203, u204, u205, u206, u207, u208, u209, u210, u211, u212, u213, u214, u215, u216, u217, u218, u219, u220], []⟩ wA := by
  have HM : Hid (MFacts B bd en sz fl hs hf base next left cnt a ent wd sa fa sz x hs b) := hM
  have HR : Hid (Row w F len B) := hR
  have HB : Hid (Byte B) := hB
  have hcl : cnt ≤ 65536 := by have := hM.e_left; omega
  have hin : Hid (∀ j : Nat, (j : Int) < cnt → 0 ≤ sa → ent + j * wd + sa + 4 ≤ len) := by
    intro j hj h0
    have hr := hM.e_room
    have hj1 : ((j : Int) + 1) * wd ≤ cnt * wd := Int.mul_le_mul_of_nonneg_right (by omega) hw0
    have hj2 : ((j : Int) + 1) * wd = j * wd + wd := by rw [Int.add_mul]; omega
    have := hsw h0
    omega
  have hFlt := hR.lt
  clear hM hR hB hsw
  conv => arg 2; whnf
  have hdd := hA.dd
  have hmm := hA.mm
  have hzz := hA.zz
  have mC : ∀ i, wA.cell? ⟨w.heap.size + 1 + 1 + 1, i, none⟩ = (#[.bool false, .bool true, .int .i64 cnt, .int .i64 a, .int .i64 ent, .int .i64 E, .int .i64 wd, .int .i64 sa, .int .i64 fa, .int .u32 sz, .int .u32 x, .bool hs, .bool b] : Array Value)[i]? := by intro i; simp [World.cell?, hmm]
  have mF : ∀ i, wA.frozen? ⟨w.heap.size + 1 + 1 + 1, i, none⟩ = false := by intro i; simp [World.frozen?, hmm]
  clear hdd hmm hzz
  go_upto_if 197 with fail
  have hA1 : MAt w (wA.setCell ⟨w.heap.size + 1 + 1 + 1, 5, none⟩ (.int .i64 a)) Ac #[.int .u32 sz, .int .u32 fl, .bool hs, .bool hf] #[.bool false, .bool true, .int .i64 cnt, .int .i64 a, .int .i64 ent, .int .i64 a, .int .i64 wd, .int .i64 sa, .int .i64 fa, .int .u32 sz, .int .u32 x, .bool hs, .bool b] := hA.put 5 (.int .i64 a)
  have HA1 : Hid (MAt w (wA.setCell ⟨w.heap.size + 1 + 1 + 1, 5, none⟩ (.int .i64 a)) Ac #[.int .u32 sz, .int .u32 fl, .bool hs, .bool hf] #[.bool false, .bool true, .int .i64 cnt, .int .i64 a, .int .i64 ent, .int .i64 a, .int .i64 wd, .int .i64 sa, .int .i64 fa, .int .u32 sz, .int .u32 x, .bool hs, .bool b]) := hA1
  clear hA hA1 mC mF
  generalize wA.setCell ⟨w.heap.size + 1 + 1 + 1, 5, none⟩ (.int .i64 a) = w1 at HA1 ⊢
  go_cut [] (fun wx => ∃ z : Int, Hid (MAt w wx Ac #[.int .u32 sz, .int .u32 fl, .bool hs, .bool hf] #[.bool false, .bool true, .int .i64 cnt, .int .i64 a, .int .i64 ent, .int .i64 z, .int .i64 wd, .int .i64 sa, .int .i64 fa, .int .u32 sz, .int .u32 x, .bool hs, .bool b]))
  case first =>
    by_cases hpos : 0 < cnt
    · rw [show decide (0 < cnt) = true from by simpa using hpos]
      go_wp2
      go_loopw [23, 24] (fun s j wx => ∃ (k : Nat) (t : Int), (k : Int) ≤ cnt ∧ j = .int .i64 k ∧ s = .int .i64 t ∧ 0 ≤ t ∧ t ≤ k * 4294967295 ∧ Hid (MAt w wx Ac #[.int .u32 sz, .int .u32 fl, .bool hs, .bool hf] #[.bool false, .bool true, .int .i64 cnt, .int .i64 a, .int .i64 ent, .int .i64 a, .int .i64 wd, .int .i64 sa, .int .i64 fa, .int .u32 sz, .int .u32 x, .bool hs, .bool b])) (fun _ j _ => (cnt - intOf j).toNat)
      case atStart => exact ⟨0, 0, by omega, rfl, rfl, by omega, by omega, HA1⟩
      case round =>
        obtain ⟨k, t, hk, rfl, rfl, ht0, ht1, HA2⟩ := hrel
        have mC : ∀ i, wr.cell? ⟨w.heap.size + 1 + 1 + 1, i, none⟩ = (#[.bool false, .bool true, .int .i64 cnt, .int .i64 a, .int .i64 ent, .int .i64 a, .int .i64 wd, .int .i64 sa, .int .i64 fa, .int .u32 sz, .int .u32 x, .bool hs, .bool b] : Array Value)[i]? := by intro i; simp [World.cell?, HA2.out.mm]
        have dC : ∀ i, wr.cell? ⟨w.heap.size + 1, i, none⟩ = (#[.int .u32 sz, .int .u32 fl, .bool hs, .bool hf] : Array Value)[i]? := by intro i; simp [World.cell?, HA2.out.dd]
        by_cases hlt : (k : Int) < cnt
        · have bz := szOf_bd HB.out ent wd sa sz hsz0 hsz1 k
          have hin1 := hin.out k hlt
          have HI : Hid (0 ≤ sa → ent + k * wd + sa + 4 ≤ len) := hin1
          clear hin1
          go_wp2_with fail
          refine (runSize_any F len cap B false true cnt a ent a wd sa fa sz x hs b sz fl hs hf k _ (HR.out.below HA2.out.below hFlt) HB.out h3 he0 hw0 hw1 (by omega) (by omega) HI.out).mono ?_
          rintro e w3 ⟨rfl, hb3⟩
          have HA3 : Hid (MAt w w3 Ac #[.int .u32 sz, .int .u32 fl, .bool hs, .bool hf] #[.bool false, .bool true, .int .i64 cnt, .int .i64 a, .int .i64 ent, .int .i64 a, .int .i64 wd, .int .i64 sa, .int .i64 fa, .int .u32 sz, .int .u32 x, .bool hs, .bool b]) := HA2.out.step hb3
          clear hb3 mC dC HA2
          go_wp2
          go_roundw
          case rel => first | exact ⟨k + 1, _, by omega, by go_num, rfl, by omega, by omega, HA3⟩ | ((repeat apply Exists.intro); exact ⟨⟨k + 1, t + szOf B ent wd sa sz k, by omega, by go_num, rfl, by omega, by omega, HA3⟩, rfl⟩)
          case measure => simp [intOf]; omega
        · have mF : ∀ i, wr.frozen? ⟨w.heap.size + 1 + 1 + 1, i, none⟩ = false := by intro i; simp [World.frozen?, HA2.out.mm]
          have HA3 : Hid (∀ y, MAt w (wr.setCell ⟨w.heap.size + 1 + 1 + 1, 5, none⟩ (.int .i64 y)) Ac #[.int .u32 sz, .int .u32 fl, .bool hs, .bool hf] #[.bool false, .bool true, .int .i64 cnt, .int .i64 a, .int .i64 ent, .int .i64 y, .int .i64 wd, .int .i64 sa, .int .i64 fa, .int .u32 sz, .int .u32 x, .bool hs, .bool b]) := fun y => HA2.out.put 5 (.int .i64 y)
          go_wp2_with fail
          refine (minI_any _ _ _).mono ?_
          rintro e w3 ⟨rfl, hw⟩; subst hw
          go_wp2
          go_meet
          exact ⟨_, HA3.out _⟩
    · go_wp2
      go_meet
      exact ⟨a, HA1⟩
  case rest =>
    obtain ⟨z, HA2⟩ := hcut
    have mC : ∀ i, wc.cell? ⟨w.heap.size + 1 + 1 + 1, i, none⟩ = (#[.bool false, .bool true, .int .i64 cnt, .int .i64 a, .int .i64 ent, .int .i64 z, .int .i64 wd, .int .i64 sa, .int .i64 fa, .int .u32 sz, .int .u32 x, .bool hs, .bool b] : Array Value)[i]? := by intro i; simp [World.cell?, HA2.out.mm]
    have mF : ∀ i, wc.frozen? ⟨w.heap.size + 1 + 1 + 1, i, none⟩ = false := by intro i; simp [World.frozen?, HA2.out.mm]
    have zC : ∀ i, wc.cell? ⟨w.heap.size + 1 + 1, i, none⟩ = (#[.bool false, .bool false, .int .i64 0, .int .i64 0, .int .i64 0, .int .i64 0, .int .i64 0, .int .i64 0, .int .i64 0, .int .u32 0, .int .u32 0, .bool false, .bool false] : Array Value)[i]? := by intro i; simp [World.cell?, HA2.out.zz]
    have zF : ∀ i, wc.frozen? ⟨w.heap.size + 1 + 1, i, none⟩ = false := by intro i; simp [World.frozen?, HA2.out.zz]
    go_wp2
    exact bodyPost_ret (v := mV true true cnt a ent z wd sa fa sz x hs b) (by simp [results, Tryf.results24, go_sem, zC]) rfl ⟨.yes HM.out, ((((((((((((((HA2.out.below.setCell (by simp; omega) _).setCell (by simp; omega) _).setCell (by simp; omega) _).setCell (by simp; omega) _).setCell (by simp; omega) _).setCell (by simp; omega) _).setCell (by simp; omega) _).setCell (by simp; omega) _).setCell (by simp; omega) _).setCell (by simp; omega) _).setCell (by simp; omega) _).setCell (by simp; omega) _).setCell (by simp; omega) _).setCell (by simp; omega) _)⟩
end Go.Proofs.Qxb6613648aFmt


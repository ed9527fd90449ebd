/-
  readTrun whole; ZZreadTrun.
-/
import Derived.Test.Qxb6613648aFmtRCount
namespace Go.Proofs.Qxb6613648aFmt
open Go.RowKit
set_option linter.unusedVariables false
set_option linter.unusedSimpArgs false
attribute [local go_sem] setCell_drewN alloc_drewN

/-- The run is read. -/
def ReadPost (N : Nat) (w0 : World) (fb mb rb tb sb P len cn e0 bd : Nat) (B : Nat → Int) (base next far left sz fl : Int) (hs hf : Bool) (e : Ending) (w' : World) : Prop :=
  e = .returned (.tuple #[.int .i64 (offAt far (atOf B bd base next (be24 B bd)) (szOf B e0 (wdOf (be24 B bd)) (saOf (be24 B bd)) sz) cn), .nilIface]) ∧ ∃ qb cp, RT w' fb mb rb tb sb P len far (left - cn) B (.slice (some ⟨qb, 0, none⟩) 1 cp) cn ∧ TrunAt w' qb #[.int .i64 (atOf B bd base next (be24 B bd)), .int .i64 e0, .int .i64 cn, .int .i64 (wdOf (be24 B bd)), .int .i64 (saOf (be24 B bd)), .int .i64 (faOf (be24 B bd)), .int .u32 sz, .int .u32 (ffOf B bd fl (be24 B bd)), .bool hs, .bool (hasBit (be24 B bd) 4 || hf), .int .u32 sz, .int .u32 fl, .bool hs, .bool hf] ∧ Below N w0 w'

set_option maxRecDepth 1000000 in
set_option maxHeartbeats 4000000 in
theorem readTrun_any (N fb mb rb tb sb P len cn e0 bd en : Nat) (B : Nat → Int) (base next far left sz fl t0 t1 t2 t3 st : Int) (hs hf : Bool) (w0 w : World)
    (hRT : RT w fb mb rb tb sb P len far left B (.slice none 0 0) 0) (hbl : Below N w0 w) (hN : N ≤ sb) (hNm : N ≤ mb) (hen : en ≤ len) (hlen : len ≤ 1048576) (hB : Byte B) (hcn : cn ≤ 65536) (hsz0 : 0 ≤ sz) (hsz1 : sz ≤ 4294967295) (hf0 : 0 ≤ far) (hf1 : far ≤ 4611686018427387904) (hleft : (cn : Int) ≤ left) (hleft1 : left ≤ 65536)
    (he0 : (e0 : Int) = bd + 4 + hdrOf (be24 B bd)) (hen0 : e0 ≤ en) (ecn : (cn : Int) = be B (bd + 4)) (hb0 : 0 ≤ base) (hb1 : base ≤ far) (hn0 : 0 ≤ next) (hn1 : next ≤ far) (hroom : (cn : Int) * wdOf (be24 B bd) ≤ en - e0) (hone : 1 ≤ cn → (hs = true ∨ 0 ≤ saOf (be24 B bd)) ∧ ((hasBit (be24 B bd) 4 || hf) = true ∨ 0 ≤ faOf (be24 B bd))) (htwo : 2 ≤ cn → (hs = true ∨ 0 ≤ saOf (be24 B bd)) ∧ (hf = true ∨ 0 ≤ faOf (be24 B bd))) :
    Calls Tryf.prog 50 #[.pointer (some ⟨fb, 0, none⟩), boxV t0 t1 t2 t3 st bd en, .pointer (some ⟨tb, 0, none⟩), defV sz fl hs hf, .int .i64 base, .int .i64 next] w fun e w' => ReadPost N w0 fb mb rb tb sb P len cn e0 bd B base next far left sz fl hs hf e w' := by
  have hh := bitI_bd (be24 B bd) 1
  have hh2 := bitI_bd (be24 B bd) 4
  have h8 : bd + 8 ≤ en := by unfold hdrOf at he0; omega
  obtain ⟨mv, hmb⟩ := hRT.mbh
  obtain ⟨Fc, hfb, hfb0⟩ := hRT.fbh
  have HB1 : Hid (Below w.heap.size w ((w.alloc (.cells #[.int .u8 t0, .int .u8 t1, .int .u8 t2, .int .u8 t3, .int .i64 st, .int .i64 bd, .int .i64 en] 114)).alloc (.cells #[.int .u32 sz, .int .u32 fl, .bool hs, .bool hf] 109))) := ((Below.refl _ _).alloc (Nat.le_refl _) _).alloc (by simp) _
  have HK : Hid (((w.alloc (.cells #[.int .u8 t0, .int .u8 t1, .int .u8 t2, .int .u8 t3, .int .i64 st, .int .i64 bd, .int .i64 en] 114)).alloc (.cells #[.int .u32 sz, .int .u32 fl, .bool hs, .bool hf] 109)).heap[w.heap.size]? = some (.cells #[.int .u8 t0, .int .u8 t1, .int .u8 t2, .int .u8 t3, .int .i64 st, .int .i64 bd, .int .i64 en] 114 (0, 0)) ∧ ((w.alloc (.cells #[.int .u8 t0, .int .u8 t1, .int .u8 t2, .int .u8 t3, .int .i64 st, .int .i64 bd, .int .i64 en] 114)).alloc (.cells #[.int .u32 sz, .int .u32 fl, .bool hs, .bool hf] 109)).heap[w.heap.size + 1]? = some (.cells #[.int .u32 sz, .int .u32 fl, .bool hs, .bool hf] 109 (0, 0)) ∧ ((w.alloc (.cells #[.int .u8 t0, .int .u8 t1, .int .u8 t2, .int .u8 t3, .int .i64 st, .int .i64 bd, .int .i64 en] 114)).alloc (.cells #[.int .u32 sz, .int .u32 fl, .bool hs, .bool hf] 109)).heap.size = w.heap.size + 1 + 1) := by
    refine ⟨?_, ?_, ?_⟩
    · rw [Below.heap_alloc _ _ _ (by simp)]
      show (w.heap.push _)[w.heap.size]? = _
      simp
    · have h9 : ∀ (w : World) (o : Obj), (w.alloc o).heap[w.heap.size]? = some o := fun w o => by show (w.heap.push o)[w.heap.size]? = _; simp
      have := h9 (w.alloc (.cells #[.int .u8 t0, .int .u8 t1, .int .u8 t2, .int .u8 t3, .int .i64 st, .int .i64 bd, .int .i64 en] 114)) (.cells #[.int .u32 sz, .int .u32 fl, .bool hs, .bool hf] 109)
      rwa [show (w.alloc (.cells #[.int .u8 t0, .int .u8 t1, .int .u8 t2, .int .u8 t3, .int .i64 st, .int .i64 bd, .int .i64 en] 114)).heap.size = w.heap.size + 1 by simp] at this
    · show ((w.heap.push _).push _).size = _
      simp
  have HR1 : Hid (RT ((w.alloc (.cells #[.int .u8 t0, .int .u8 t1, .int .u8 t2, .int .u8 t3, .int .i64 st, .int .i64 bd, .int .i64 en] 114)).alloc (.cells #[.int .u32 sz, .int .u32 fl, .bool hs, .bool hf] 109)) fb mb rb tb sb P len far left B (.slice none 0 0) 0) := hRT.step HB1.out
  have HAll : Hid (RT w fb mb rb tb sb P len far left B (.slice none 0 0) 0 ∧ Below N w0 w ∧ Byte B) := ⟨hRT, hbl, hB⟩
  have HNum : Hid ((e0 : Int) = bd + 4 + hdrOf (be24 B bd) ∧ (cn : Int) = be B (bd + 4) ∧ (cn : Int) * wdOf (be24 B bd) ≤ en - e0) := ⟨he0, ecn, hroom⟩
  have HO : Hid ((1 ≤ cn → (hs = true ∨ 0 ≤ saOf (be24 B bd)) ∧ ((hasBit (be24 B bd) 4 || hf) = true ∨ 0 ≤ faOf (be24 B bd))) ∧ (2 ≤ cn → (hs = true ∨ 0 ≤ saOf (be24 B bd)) ∧ (hf = true ∨ 0 ≤ faOf (be24 B bd)))) := ⟨hone, htwo⟩
  have c0 : w.cell? ⟨fb, 0, none⟩ = some (.pointer (some ⟨mb, 0, none⟩)) := by simp only [World.cell?, hfb]; exact hfb0
  have c1 : w.cell? ⟨mb, 0, none⟩ = some (.iface 90 (.pointer (some ⟨rb, 0, none⟩))) := by simp [World.cell?, hmb]
  have lf : fb < w.heap.size := lt_of_block hfb
  have lm : mb < w.heap.size := lt_of_block hmb
  have hNw : N ≤ w.heap.size := Nat.le_trans hNm (Nat.le_of_lt lm)
  clear hRT hbl hB he0 ecn hroom hone htwo hmb hfb hfb0
  go_enter Tryf.func50, Tryf.ntmps50
  go_upto_region 1 with fail
  go_region_with (go_at_call 52; refine (fullPayload_any rb P len bd en t0 t1 t2 t3 st B _ ?_ ?_ HAll.out.2.2 h8 hen hlen).mono ?_; exact HR1.out.rbh; exact HR1.out.row; rintro e w3 ⟨rfl, h3⟩)
  all_goals
    obtain ⟨Q, hQ, H3⟩ : ∃ Q, w.heap.size + 1 + 1 + 1 + 1 + 1 = Q ∧ Hid (Row w3 Q (en - bd) (fun i => B (bd + i)) ∧ Below (w.heap.size + 1 + 1) ((w.alloc (.cells #[.int .u8 t0, .int .u8 t1, .int .u8 t2, .int .u8 t3, .int .i64 st, .int .i64 bd, .int .i64 en] 114)).alloc (.cells #[.int .u32 sz, .int .u32 fl, .bool hs, .bool hf] 109)) w3) := ⟨_, rfl, by
      obtain ⟨g1, g2⟩ := h3
      have e := HK.out.2.2
      refine ⟨?_, (Below.drew (Below.refl _ _)).trans (g2.mono (Nat.le_of_eq e.symm))⟩
      rw [show w.heap.size + 1 + 1 + 1 + 1 + 1 = ((w.alloc (.cells #[.int .u8 t0, .int .u8 t1, .int .u8 t2, .int .u8 t3, .int .i64 st, .int .i64 bd, .int .i64 en] 114)).alloc (.cells #[.int .u32 sz, .int .u32 fl, .bool hs, .bool hf] 109)).heap.size + 1 + 1 + 1 by rw [e]]
      exact g1⟩
    clear h3
    simp only [Act.put, List.setIfInBounds_toArray, List.set_cons_zero, List.set_cons_succ, List.getElem_toArray, List.getElem_cons_zero, List.getElem_cons_succ]
    go_upto_region 2 with fail
    go_cut [51] (fun s wx => s = .bool false ∧ wx = w3)
    case first =>
      go_wp2
      go_meet
      exact ⟨rfl, rfl⟩
    case rest =>
      rename_i KA2 hKA2 KB2 hKB2
      obtain ⟨rfl, rfl⟩ := hcut
      refine hKB2 _ _ (wp_cond_false rfl (wp_skip (hKA2 _ _ ?_)))
      obtain ⟨hrow, hbw⟩ := H3.out
      have hsz := HK.out.2.2
      have hbw2 : Below ((w.alloc (.cells #[.int .u8 t0, .int .u8 t1, .int .u8 t2, .int .u8 t3, .int .i64 st, .int .i64 bd, .int .i64 en] 114)).alloc (.cells #[.int .u32 sz, .int .u32 fl, .bool hs, .bool hf] 109)).heap.size ((w.alloc (.cells #[.int .u8 t0, .int .u8 t1, .int .u8 t2, .int .u8 t3, .int .i64 st, .int .i64 bd, .int .i64 en] 114)).alloc (.cells #[.int .u32 sz, .int .u32 fl, .bool hs, .bool hf] 109)) wc := hbw.mono (Nat.le_of_eq hsz)
      have hqe : (⟨w.heap.size + 1 + 1 + 1 + 1 + 1, 4, none⟩ : Addr) = ⟨Q, 4, none⟩ := by rw [hQ]
      first
        | rw [hqe]
        | skip
      exact rt_4 N fb mb rb tb sb P len w.heap.size Q cn e0 bd en B (be24 B bd) base next far left sz fl t0 t1 t2 t3 st hs hf _ w0 _ _ _ _ _ _ _ _ _ _ _ _ _ _ _ _ _ _ _ _ _ _ _ _ _ _ _ _ _ _ _ _ _ _ _ _ _ _ _ _ _ _ _ _ _ _ _ _ _ _ _ _ _ _ _ _ _ _ _ _ _ _ _ _ _ _ _ _ _ _ _ _ _ _ _ _ _ _ _ _ _ _ _ _ _ _ _ _ _ _ _ _ _ _ _ _ _ _ _ _ _ _ _ _ _ _ _ _ _ _ _ _ _ _ _ _ _ _ _ _ _ _ _ _ _ _ _ _ _ _ _ _ _ _ _ _ _ _ _ _ _ _ _ _ _ _ _ _ _ _ _ _ _ _ _ _ _ _ _ _ _ _ _ _ _ _ _ _ _ _ _ _ _ _ _ _ _ _ _ _ _ _ _ _ _ _ _ _ _ _ _ _ _ _ _ _ _ _ _ _ _ _ _ _ _ _ _ _ _ _ _ _ _ _ _ _ _ _ _ _ _ _ _ _ _ _ _ _ _ _ _ _ _ (HR1.out.step hbw2) ((HAll.out.2.1.trans (HB1.out.mono hNw)).trans (hbw.mono (by omega))) hN hNm ((hbw.block _ (by omega)).trans HK.out.1) ((hbw.block _ (by omega)).trans HK.out.2.1) hrow (by omega) hen hlen HAll.out.2.2 hcn hsz0 hsz1 hf0 hf1 hleft hleft1
        HNum.out.1 hen0 HNum.out.2.1 hb0 hb1 hn0 hn1 HNum.out.2.2 HO.out.1 HO.out.2 (fun w' qb cp g1 g2 g3 => ⟨rfl, qb, cp, g1, g2, g3⟩)

set_option maxRecDepth 100000 in
set_option maxHeartbeats 1000000 in
theorem zzRead_any (N fb mb rb tb sb P len cn e0 bd en : Nat) (B : Nat → Int) (base next far left sz fl t0 t1 t2 t3 st : Int) (hs hf : Bool) (w0 w : World)
    (hRT : RT w fb mb rb tb sb P len far left B (.slice none 0 0) 0) (hbl : Below N w0 w) (hN : N ≤ sb) (hNm : N ≤ mb) (hen : en ≤ len) (hlen : len ≤ 1048576) (hB : Byte B) (hcn : cn ≤ 65536) (hsz0 : 0 ≤ sz) (hsz1 : sz ≤ 4294967295) (hf0 : 0 ≤ far) (hf1 : far ≤ 4611686018427387904) (hleft : (cn : Int) ≤ left) (hleft1 : left ≤ 65536)
    (he0 : (e0 : Int) = bd + 4 + hdrOf (be24 B bd)) (hen0 : e0 ≤ en) (ecn : (cn : Int) = be B (bd + 4)) (hb0 : 0 ≤ base) (hb1 : base ≤ far) (hn0 : 0 ≤ next) (hn1 : next ≤ far) (hroom : (cn : Int) * wdOf (be24 B bd) ≤ en - e0) (hone : 1 ≤ cn → (hs = true ∨ 0 ≤ saOf (be24 B bd)) ∧ ((hasBit (be24 B bd) 4 || hf) = true ∨ 0 ≤ faOf (be24 B bd))) (htwo : 2 ≤ cn → (hs = true ∨ 0 ≤ saOf (be24 B bd)) ∧ (hf = true ∨ 0 ≤ faOf (be24 B bd))) :
    Calls Tryf.prog 26 #[.pointer (some ⟨fb, 0, none⟩), .pointer (some ⟨tb, 0, none⟩), .agg #[.int .u8 t0, .int .u8 t1, .int .u8 t2, .int .u8 t3], .int .i64 st, .int .i64 bd, .int .i64 en, .int .u32 sz, .int .u32 fl, .bool hs, .bool hf, .int .i64 base, .int .i64 next] w fun e w' => ReadPost N w0 fb mb rb tb sb P len cn e0 bd B base next far left sz fl hs hf e w' := by
  have HB1 : Hid (∀ o, Below w.heap.size w (w.alloc o)) := fun o => (Below.refl _ _).alloc (Nat.le_refl _) o
  have hNw : N ≤ w.heap.size := Nat.le_trans hN (Nat.le_of_lt (lt_of_block hRT.sbh))
  have HAll : Hid (RT w fb mb rb tb sb P len far left B (.slice none 0 0) 0 ∧ Below N w0 w ∧ Byte B) := ⟨hRT, hbl, hB⟩
  have HNum : Hid ((e0 : Int) = bd + 4 + hdrOf (be24 B bd) ∧ (cn : Int) = be B (bd + 4) ∧ (cn : Int) * wdOf (be24 B bd) ≤ en - e0) := ⟨he0, ecn, hroom⟩
  have HO : Hid ((1 ≤ cn → (hs = true ∨ 0 ≤ saOf (be24 B bd)) ∧ ((hasBit (be24 B bd) 4 || hf) = true ∨ 0 ≤ faOf (be24 B bd))) ∧ (2 ≤ cn → (hs = true ∨ 0 ≤ saOf (be24 B bd)) ∧ (hf = true ∨ 0 ≤ faOf (be24 B bd)))) := ⟨hone, htwo⟩
  clear hRT hbl hB he0 ecn hroom hone htwo
  go_enter Tryf.func26, Tryf.ntmps26
  go_wp2_with fail
  refine (readTrun_any N fb mb rb tb sb P len cn e0 bd en B base next far left sz fl t0 t1 t2 t3 st hs hf w0 _ (HAll.out.1.step (HB1.out _)) (HAll.out.2.1.trans ((HB1.out _).mono hNw)) hN hNm hen hlen HAll.out.2.2 hcn hsz0 hsz1 hf0 hf1 hleft hleft1 HNum.out.1 hen0 HNum.out.2.1 hb0 hb1 hn0 hn1 HNum.out.2.2 HO.out.1 HO.out.2).mono ?_
  rintro e w2 ⟨rfl, h2⟩
  have H2 : Hid (∃ qb cp, RT w2 fb mb rb tb sb P len far (left - cn) B (.slice (some ⟨qb, 0, none⟩) 1 cp) cn ∧ TrunAt w2 qb #[.int .i64 (atOf B bd base next (be24 B bd)), .int .i64 e0, .int .i64 cn, .int .i64 (wdOf (be24 B bd)), .int .i64 (saOf (be24 B bd)), .int .i64 (faOf (be24 B bd)), .int .u32 sz, .int .u32 (ffOf B bd fl (be24 B bd)), .bool hs, .bool (hasBit (be24 B bd) 4 || hf), .int .u32 sz, .int .u32 fl, .bool hs, .bool hf] ∧ Below N w0 w2) := h2
  clear h2
  go_wp2
  go_ret2
  exact ⟨rfl, H2.out⟩
end Go.Proofs.Qxb6613648aFmt

/-
  FnFillTrunLaysOutTheRun: the row, told; the tied card.
-/
import Derived.Test.Qxb6613648aFmtLaw7
import Derived.Test.Qxb6613648aFmtTie
import Derived.Test.Qxb6613648aFmtCards
import Derived.SevenTiedAt
import Derived.Stop.JoinedTold
import Derived.OpenShut
import Derived.ChangeArms
import Derived.Carry
import Derived.Lib.SmallJoins
import Derived.LaidMore
import Derived.Deep.DeepWitnessRef
import Derived.Stop.Joined
namespace Go.Proofs.Qxb6613648aFmt
open Go.ChangeShapes Go.WideShapes Go.ChangeAt Go.WideMaps Go.WideElems Go.RowKit
set_option maxRecDepth 100000

theorem own : ownKnob Tryf.prog.godebug = none := by kernel_rfl
theorem laidOut : laidOutB Tryf.prog = true := by kernel_rfl

section
variable {H : Type} {enc : TypeId × Value → H} {W : World} {sp : Nat → Bool} {b0 : Nat} {r : Reach}

theorem one_int {t : TypeId} {k : IntKind} {n : Nat} {c : Value} {y : Option (DataW H × List MemPlace)} {y' : DataW H × List MemPlace} (ht : Tryf.prog.underlying t = some (.int k)) (h : DataW.trod enc Tryf.prog W 0 sp true n t [c] = y) (hy : y = some y') : ∃ z, c = .int k z ∧ (Lit.int k z).wf = true := by
  rw [hy] at h
  obtain ⟨z, e1, _, e3⟩ := DataW.trod_int ht h
  simp at e1
  exact ⟨z, e1, e3⟩
theorem one_bool {t : TypeId} {n : Nat} {c : Value} {y : Option (DataW H × List MemPlace)} {y' : DataW H × List MemPlace} (ht : Tryf.prog.underlying t = some .bool) (h : DataW.trod enc Tryf.prog W 0 sp true n t [c] = y) (hy : y = some y') : ∃ z, c = .bool z := by
  rw [hy] at h
  obtain ⟨z, e1, _⟩ := DataW.trod_bool ht h
  simp at e1
  exact ⟨z, e1⟩
theorem get_some {α : Type} {l : List α} {n : Nat} (h : l.length = n) {i : Nat} (hi : i < n) : ∃ x, l[i]? = some x := ⟨_, List.getElem?_eq_getElem (by omega)⟩

theorem open32 {v : Value} {d : DataW H} {p : List MemPlace} (hv : Value.okWide Tryf.prog W r b0 32 v) (h : DataW.Trod enc Tryf.prog W 0 sp true 32 v d p) : ∃ t0 t1 t2 t3 st bd en, v = boxV t0 t1 t2 t3 st bd en := by
  obtain ⟨cs, rfl, hsz⟩ := okWide_struct Tryf.underlying32 hv
  have hsz' : cs.size = 7 := hsz.trans (by kernel_rfl)
  obtain ⟨fuel, hf⟩ := h
  obtain ⟨xs, n, _, _, _, hl, hi⟩ := DataW.trod_struct Tryf.underlying32 hf
  obtain ⟨l⟩ := cs
  match l, hsz' with
  | [c0, c1, c2, c3, c4, c5, c6], _ =>
    have h0 := hi 0 _ rfl
    have h1 := hi 1 _ rfl
    have h2 := hi 2 _ rfl
    have h3 := hi 3 _ rfl
    obtain ⟨x0, e0⟩ := get_some hl (i := 0) (by decide)
    obtain ⟨x1, e1⟩ := get_some hl (i := 1) (by decide)
    obtain ⟨x2, e2⟩ := get_some hl (i := 2) (by decide)
    obtain ⟨x3, e3⟩ := get_some hl (i := 3) (by decide)
    obtain ⟨st, rfl, _⟩ := one_int (c := c4) Tryf.underlying2 h1 e1
    obtain ⟨bd, rfl, _⟩ := one_int (c := c5) Tryf.underlying2 h2 e2
    obtain ⟨en, rfl, _⟩ := one_int (c := c6) Tryf.underlying2 h3 e3
    rw [e0] at h0
    obtain ⟨ys, m, _, _, _, hyl, hy⟩ := DataW.trod_array Tryf.underlying30 h0
    obtain ⟨y0, f0⟩ := get_some hyl (i := 0) (by decide)
    obtain ⟨y1, f1⟩ := get_some hyl (i := 1) (by decide)
    obtain ⟨y2, f2⟩ := get_some hyl (i := 2) (by decide)
    obtain ⟨y3, f3⟩ := get_some hyl (i := 3) (by decide)
    obtain ⟨t0, rfl, _⟩ := one_int (c := c0) Tryf.underlying5 (hy 0 (by decide)) f0
    obtain ⟨t1, rfl, _⟩ := one_int (c := c1) Tryf.underlying5 (hy 1 (by decide)) f1
    obtain ⟨t2, rfl, _⟩ := one_int (c := c2) Tryf.underlying5 (hy 2 (by decide)) f2
    obtain ⟨t3, rfl, _⟩ := one_int (c := c3) Tryf.underlying5 (hy 3 (by decide)) f3
    exact ⟨t0, t1, t2, t3, st, bd, en, rfl⟩

theorem open27 {v : Value} {d : DataW H} {p : List MemPlace} (hv : Value.okWide Tryf.prog W r b0 27 v) (h : DataW.Trod enc Tryf.prog W 0 sp true 27 v d p) : ∃ sz fl hs hf, v = defV sz fl hs hf ∧ (Lit.int .u32 sz).wf = true ∧ (Lit.int .u32 fl).wf = true := by
  obtain ⟨cs, rfl, hsz⟩ := okWide_struct Tryf.underlying27 hv
  have hsz' : cs.size = 4 := hsz.trans (by kernel_rfl)
  obtain ⟨fuel, hff⟩ := h
  obtain ⟨xs, n, _, _, _, hl, hi⟩ := DataW.trod_struct Tryf.underlying27 hff
  obtain ⟨l⟩ := cs
  match l, hsz' with
  | [c0, c1, c2, c3], _ =>
    have h0 := hi 0 _ rfl
    have h1 := hi 1 _ rfl
    have h2 := hi 2 _ rfl
    have h3 := hi 3 _ rfl
    obtain ⟨x0, e0⟩ := get_some hl (i := 0) (by decide)
    obtain ⟨x1, e1⟩ := get_some hl (i := 1) (by decide)
    obtain ⟨x2, e2⟩ := get_some hl (i := 2) (by decide)
    obtain ⟨x3, e3⟩ := get_some hl (i := 3) (by decide)
    obtain ⟨sz, rfl, w0⟩ := one_int (c := c0) Tryf.underlying23 h0 e0
    obtain ⟨fl, rfl, w1⟩ := one_int (c := c1) Tryf.underlying23 h1 e1
    obtain ⟨hs, rfl⟩ := one_bool (c := c2) Tryf.underlying4 h2 e2
    obtain ⟨hf, rfl⟩ := one_bool (c := c3) Tryf.underlying4 h3 e3
    exact ⟨sz, fl, hs, hf, rfl, w0, w1⟩

theorem openFile {v : Value} {d : DataW H} {p : List MemPlace} (hv : Value.okWide Tryf.prog W r b0 22 v) (h : DataW.Trod enc Tryf.prog W 0 (fun _ => true) true 22 v d p) : ∃ xa len cap B, v = .slice xa len cap ∧ FileIn W xa len cap B ∧ Byte B ∧ len ≤ maxLen := by
  obtain ⟨xa, len, cap, rfl⟩ := okWide_slice Tryf.underlying22 hv
  obtain ⟨fuel, hf⟩ := h
  rcases open_ints Tryf.underlying22 Tryf.underlying5 (by kernel_rfl) hf with ⟨hcs, _⟩ | ⟨x, l, c, zs, hcs, _, hl, hm, hz, _, hcell, hwz⟩
  · simp [Value.cells] at hcs
    obtain ⟨rfl, rfl, rfl⟩ := hcs
    exact ⟨none, 0, 0, fun _ => 0, rfl, .inl ⟨rfl, rfl, rfl⟩, fun _ => ⟨Int.le_refl _, (by decide : (0 : Int) ≤ 255)⟩, Nat.zero_le _⟩
  · simp [Value.cells] at hcs
    obtain ⟨rfl, rfl, rfl⟩ := hcs
    have hz' : zs.length = cap := by simpa using hz
    refine ⟨some x, len, cap, fun i => zs.getD i 0, rfl, .inr ⟨x, rfl, ?_⟩, fun i => ?_, Nat.le_trans hl hm⟩
    · by_cases h0 : len = 0
      · exact .inl h0
      · have c0 := hcell 0 (by omega)
        obtain ⟨e, k, hs, _, hsp⟩ := World.shape?_of_cell? c0
        obtain ⟨b, o, sp'⟩ := x
        obtain rfl : sp' = none := hsp
        have hb : Bytes W b o len (fun i => zs.getD i 0) := fun i hi => by
          have := hcell i (by omega)
          by_cases hi0 : i = 0
          · subst hi0; simpa [Addr.add] using this
          · simpa [Addr.add, hi0] using this
        have hlt : b < W.heap.size := by
          have := hb 0 (by omega)
          exact lt_of_cell this
        exact .inr ⟨b, o, rfl, hlt, hb⟩
    · show 0 ≤ zs.getD i 0 ∧ zs.getD i 0 ≤ 255
      rw [List.getD_eq_getElem?_getD]
      by_cases hi : i < zs.length
      · rw [List.getElem?_eq_getElem hi, Option.getD_some]
        have := hwz _ (List.getElem_mem hi)
        have e1 : IntKind.u8.min = 0 := rfl
        have e2 : IntKind.u8.max = 255 := rfl
        simp [Lit.wf, e1, e2] at this
        omega
      · rw [List.getElem?_eq_none (by omega)]
        exact ⟨Int.le_refl _, (by decide : (0 : Int) ≤ 255)⟩
end

theorem wf_u32 {z : Int} (h : (Lit.int .u32 z).wf = true) : 0 ≤ z ∧ z ≤ 4294967295 := by
  have e1 : IntKind.u32.min = 0 := rfl
  have e2 : IntKind.u32.max = 4294967295 := rfl
  simp [Lit.wf, e1, e2] at h
  omega
theorem wf_u64 {z : Int} (h : (Lit.int .u64 z).wf = true) : 0 ≤ z := by
  have e1 : IntKind.u64.min = 0 := rfl
  simp [Lit.wf, e1] at h
  omega

abbrev row7 := Rows.fnFillTrunLaysOutTheRunRow
abbrev spec7 : OpenSpec := OpenSpec.ofChange Rows.fnFillTrunLaysOutTheRunSpec
abbrev args7 : Array Value := #[.slice none 0 0, .int .i64 0, .int .u64 0, boxV 0 0 0 0 0 0 0, defV 0 0 false false, .int .i64 0, .int .i64 0, .int .i64 0]

theorem door_met7 (os : Os) : laidMetH Tryf.prog row7.laid ((World.doorLaid Tryf.prog 400 os).forCall (fun _ _ => 0) ⟨#[], args7, []⟩).memory :=
  laidMetH_of_parts3 (fuel := 8) (laidMet_of_run' 8 (by kernel_rfl) (by kernel_rfl)) (by kernel_rfl) (by kernel_rfl)

theorem witness7 (os : Os) {H : Type} (enc : TypeId × Value → H) :
    spec7.preRow enc Tryf.prog Tryf.f7 row7.domain false row7.laid ((World.doorLaid Tryf.prog 400 os).forCall (fun _ _ => 0) ⟨#[], args7, []⟩).memory args7 := by
  have hw : (DataW.whole enc Tryf.prog ((World.doorLaid Tryf.prog 400 os).forCall (fun _ _ => 0) ⟨#[], args7, []⟩).memory Tryf.f7.params.toList spec7.vars false args7.toList 8).map (fun x => (x.1, x.2.1)) =
      some ([.nil, .lit (.int .i64 0), .lit (.int .u64 0), .agg [.agg [.lit (.int .u8 0), .lit (.int .u8 0), .lit (.int .u8 0), .lit (.int .u8 0)], .lit (.int .i64 0), .lit (.int .i64 0), .lit (.int .i64 0)], .agg [.lit (.int .u32 0), .lit (.int .u32 0), .lit (.bool false), .lit (.bool false)], .lit (.int .i64 0), .lit (.int .i64 0), .lit (.int .i64 0)], []) := by kernel_rfl
  obtain ⟨⟨x1, x2, x3⟩, hx, hx1⟩ := Option.map_eq_some_iff.1 hw
  simp only [Prod.mk.injEq] at hx1
  obtain ⟨rfl, rfl⟩ := hx1
  exact OpenSpec.preRow_of_cond 8 hx (by kernel_rfl) (fun k hk => by cases hk) (by kernel_rfl) (door_met7 os)

set_option maxHeartbeats 4000000 in
theorem lifted7 (os : Os) (started : os.Started) (H : Type) (enc : TypeId × Value → H) :
    ReturnsInTold none {} Tryf.checked os 7 .any Input.okWide (spec7.preRow enc Tryf.prog Tryf.f7 row7.domain false row7.laid) (fun F => (spec7.at F).post enc Tryf.prog Tryf.f7 false row7.fresh row7.handsOn row7.again) (aloneAtReturn Tryf.prog) nothingAlways := by
  refine returnsInTold_of_row (C := Tryf.checked) (s := spec7) (by kernel_rfl) own started (by kernel_rfl) Tryf.func7
    (OpenSpec.witness_stopped_atRef (enc := enc) (C := Tryf.checked) false (World.doorLaid Tryf.prog 400 os) args7 rfl (by kernel_rfl) (by kernel_rfl) (by kernel_rfl) (witness7 os enc)) ?_
  intro F W base args ds gs before _ hF hval0 hW hcnd0 _ _ hL _
  have hval : ∀ (j : Nat) t v, Tryf.f7.params[j]? = some t → args[j]? = some v → Value.okWide Tryf.prog W .any base t v := hval0
  have hW' := hW
  obtain ⟨p, q, hA0, hV0, rfl, _, _⟩ := hW
  have hA : DataW.TrodAll enc Tryf.prog W 0 (fun _ => true) true Tryf.f7.params.toList args.toList ds p := hA0
  rw [Tryf.params7] at hA hval
  obtain ⟨v0, vs0, d0, ds0, p0, q0, hargs, rfl, rfl, h0, r0⟩ := trodAll_cons hA
  obtain ⟨v1, vs1, d1, ds1, p1, q1, rfl, rfl, rfl, h1, r1⟩ := trodAll_cons r0
  obtain ⟨v2, vs2, d2, ds2, p2, q2, rfl, rfl, rfl, h2, r2⟩ := trodAll_cons r1
  obtain ⟨v3, vs3, d3, ds3, p3, q3, rfl, rfl, rfl, h3, r3⟩ := trodAll_cons r2
  obtain ⟨v4, vs4, d4, ds4, p4, q4, rfl, rfl, rfl, h4, r4⟩ := trodAll_cons r3
  obtain ⟨v5, vs5, d5, ds5, p5, q5, rfl, rfl, rfl, h5, r5⟩ := trodAll_cons r4
  obtain ⟨v6, vs6, d6, ds6, p6, q6, rfl, rfl, rfl, h6, r6⟩ := trodAll_cons r5
  obtain ⟨v7, vs7, d7, ds7, p7, q7, rfl, rfl, rfl, h7, r7⟩ := trodAll_cons r6
  obtain ⟨rfl, rfl, rfl⟩ := trodAll_nil r7
  obtain rfl : args = #[v0, v1, v2, v3, v4, v5, v6, v7] := by cases args; simp_all
  obtain ⟨rfl, rfl⟩ := trodVars_none hV0
  obtain ⟨far, rfl, rfl, rfl, w1⟩ := open_int Tryf.underlying2 (hval 1 2 v1 rfl rfl) h1
  obtain ⟨left, rfl, rfl, rfl, w2⟩ := open_int Tryf.underlying42 (hval 2 42 v2 rfl rfl) h2
  obtain ⟨base', rfl, rfl, rfl, w5⟩ := open_int Tryf.underlying2 (hval 5 2 v5 rfl rfl) h5
  obtain ⟨next, rfl, rfl, rfl, w6⟩ := open_int Tryf.underlying2 (hval 6 2 v6 rfl rfl) h6
  obtain ⟨dl, rfl, rfl, rfl, w7⟩ := open_int Tryf.underlying3 (hval 7 3 v7 rfl rfl) h7
  have lt0 : ∀ x ∈ p0, x.block < W.heap.size := by obtain ⟨m, hm⟩ := h0; exact DataW.trod_lt m _ _ _ hm
  have lt3 : ∀ x ∈ p3, x.block < W.heap.size := by obtain ⟨m, hm⟩ := h3; exact DataW.trod_lt m _ _ _ hm
  have lt4 : ∀ x ∈ p4, x.block < W.heap.size := by obtain ⟨m, hm⟩ := h4; exact DataW.trod_lt m _ _ _ hm
  obtain ⟨xa, len, cap, B, rfl, hfile, hB, hlm⟩ := openFile (hval 0 22 v0 rfl rfl) h0
  obtain ⟨t0, t1, t2, t3, st, bd, en, rfl⟩ := open32 (hval 3 32 v3 rfl rfl) h3
  obtain ⟨sz, fl, hs, hf, rfl, ws, wf⟩ := open27 (hval 4 27 v4 rfl rfl) h4
  clear hA0 hV0 hval0
  refine (law7 xa len cap far left t0 t1 t2 t3 st bd en sz fl base' next dl hs hf B W hfile hB hlm (wf_u64 w2) (wf_u32 ws).1 (wf_u32 ws).2 (wf_u32 wf).1 (wf_u32 wf).2).mono fun e W' ⟨he, bel⟩ => ?_
  subst he
  exact ⟨_, rfl, _, _, _, [], _, [], hW', trodAll_mk1 (shut_bool Tryf.underlying4 _), (trodAll_cons_mk (Below.trod laidOut (by kernel_rfl) (of_decide_eq_true (by kernel_rfl)) h0 bel lt0) (trodAll_cons_mk (shut_int Tryf.underlying2 w1) (trodAll_cons_mk (shut_int Tryf.underlying42 w2) (trodAll_cons_mk (Below.trod laidOut (by kernel_rfl) (of_decide_eq_true (by kernel_rfl)) h3 bel lt3) (trodAll_cons_mk (Below.trod laidOut (by kernel_rfl) (of_decide_eq_true (by kernel_rfl)) h4 bel lt4) (trodAll_cons_mk (shut_int Tryf.underlying2 w5) (trodAll_cons_mk (shut_int Tryf.underlying2 w6) (trodAll_cons_mk (shut_int Tryf.underlying3 w7) trodAll_mk0)))))))), rfl, bel.frame _, fun h => by cases h⟩
end Go.Proofs.Qxb6613648aFmt

/-
  FnFillTrunInTwoPiecesAsInOne: the row, told.
-/
import Derived.Test.Qxb6613648aFmtRow7
import Derived.Test.Qxb6613648aFmtLaw8
namespace Go.Proofs.Qxb6613648aFmt
open Go.ChangeShapes Go.WideShapes Go.ChangeAt Go.WideMaps Go.WideElems Go.RowKit
set_option maxRecDepth 100000

abbrev row8 := Rows.fnFillTrunInTwoPiecesAsInOneRow
abbrev spec8 : OpenSpec := OpenSpec.ofChange Rows.fnFillTrunInTwoPiecesAsInOneSpec
abbrev args8 : Array Value := #[.slice none 0 0, .int .i64 0, .int .u64 0, boxV 0 0 0 0 0 0 0, defV 0 0 false false, .int .i64 0, .int .i64 0, .int .i64 0, .int .i64 0]

theorem door_met8 (os : Os) : laidMetH Tryf.prog row8.laid ((World.doorLaid Tryf.prog 400 os).forCall (fun _ _ => 0) ⟨#[], args8, []⟩).memory :=
  laidMetH_of_parts3 (fuel := 8) (laidMet_of_run' 8 (by kernel_rfl) (by kernel_rfl)) (by kernel_rfl) (by kernel_rfl)

theorem witness8 (os : Os) {H : Type} (enc : TypeId × Value → H) :
    spec8.preRow enc Tryf.prog Tryf.f8 row8.domain false row8.laid ((World.doorLaid Tryf.prog 400 os).forCall (fun _ _ => 0) ⟨#[], args8, []⟩).memory args8 := by
  have hw : (DataW.whole enc Tryf.prog ((World.doorLaid Tryf.prog 400 os).forCall (fun _ _ => 0) ⟨#[], args8, []⟩).memory Tryf.f8.params.toList spec8.vars false args8.toList 8).map (fun x => (x.1, x.2.1)) =
      some ([.nil, .lit (.int .i64 0), .lit (.int .u64 0), .agg [.agg [.lit (.int .u8 0), .lit (.int .u8 0), .lit (.int .u8 0), .lit (.int .u8 0)], .lit (.int .i64 0), .lit (.int .i64 0), .lit (.int .i64 0)], .agg [.lit (.int .u32 0), .lit (.int .u32 0), .lit (.bool false), .lit (.bool false)], .lit (.int .i64 0), .lit (.int .i64 0), .lit (.int .i64 0), .lit (.int .i64 0)], []) := by kernel_rfl
  obtain ⟨⟨x1, x2, x3⟩, hx, hx1⟩ := Option.map_eq_some_iff.1 hw
  simp only [Prod.mk.injEq] at hx1
  obtain ⟨rfl, rfl⟩ := hx1
  exact OpenSpec.preRow_of_cond 8 hx (by kernel_rfl) (fun k hk => by cases hk) (by kernel_rfl) (door_met8 os)

set_option maxHeartbeats 4000000 in
theorem lifted8 (os : Os) (started : os.Started) (H : Type) (enc : TypeId × Value → H) :
    ReturnsInTold none {} Tryf.checked os 8 .any Input.okWide (spec8.preRow enc Tryf.prog Tryf.f8 row8.domain false row8.laid) (fun F => (spec8.at F).post enc Tryf.prog Tryf.f8 false row8.fresh row8.handsOn row8.again) (aloneAtReturn Tryf.prog) nothingAlways := by
  refine returnsInTold_of_row (C := Tryf.checked) (s := spec8) (by kernel_rfl) own started (by kernel_rfl) Tryf.func8
    (OpenSpec.witness_stopped_atRef (enc := enc) (C := Tryf.checked) false (World.doorLaid Tryf.prog 400 os) args8 rfl (by kernel_rfl) (by kernel_rfl) (by kernel_rfl) (witness8 os enc)) ?_
  intro F W base args ds gs before _ hF hval0 hW hcnd0 _ _ hL _
  have hval : ∀ (j : Nat) t v, Tryf.f8.params[j]? = some t → args[j]? = some v → Value.okWide Tryf.prog W .any base t v := hval0
  have hW' := hW
  obtain ⟨p, q, hA0, hV0, rfl, _, _⟩ := hW
  have hA : DataW.TrodAll enc Tryf.prog W 0 (fun _ => true) true Tryf.f8.params.toList args.toList ds p := hA0
  rw [Tryf.params8] at hA hval
  obtain ⟨v0, vs0, d0, ds0, p0, q0, hargs, rfl, rfl, h0, r0⟩ := trodAll_cons hA
  obtain ⟨v1, vs1, d1, ds1, p1, q1, rfl, rfl, rfl, h1, r1⟩ := trodAll_cons r0
  obtain ⟨v2, vs2, d2, ds2, p2, q2, rfl, rfl, rfl, h2, r2⟩ := trodAll_cons r1
  obtain ⟨v3, vs3, d3, ds3, p3, q3, rfl, rfl, rfl, h3, r3⟩ := trodAll_cons r2
  obtain ⟨v4, vs4, d4, ds4, p4, q4, rfl, rfl, rfl, h4, r4⟩ := trodAll_cons r3
  obtain ⟨v5, vs5, d5, ds5, p5, q5, rfl, rfl, rfl, h5, r5⟩ := trodAll_cons r4
  obtain ⟨v6, vs6, d6, ds6, p6, q6, rfl, rfl, rfl, h6, r6⟩ := trodAll_cons r5
  obtain ⟨v7, vs7, d7, ds7, p7, q7, rfl, rfl, rfl, h7, r7⟩ := trodAll_cons r6
  obtain ⟨v8, vs8, d8, ds8, p8, q8, rfl, rfl, rfl, h8, r8⟩ := trodAll_cons r7
  obtain ⟨rfl, rfl, rfl⟩ := trodAll_nil r8
  obtain rfl : args = #[v0, v1, v2, v3, v4, v5, v6, v7, v8] := by cases args; simp_all
  obtain ⟨rfl, rfl⟩ := trodVars_none hV0
  obtain ⟨far, rfl, rfl, rfl, w1⟩ := open_int Tryf.underlying2 (hval 1 2 v1 rfl rfl) h1
  obtain ⟨left, rfl, rfl, rfl, w2⟩ := open_int Tryf.underlying42 (hval 2 42 v2 rfl rfl) h2
  obtain ⟨base', rfl, rfl, rfl, w5⟩ := open_int Tryf.underlying2 (hval 5 2 v5 rfl rfl) h5
  obtain ⟨next, rfl, rfl, rfl, w6⟩ := open_int Tryf.underlying2 (hval 6 2 v6 rfl rfl) h6
  obtain ⟨hd, rfl, rfl, rfl, w7⟩ := open_int Tryf.underlying3 (hval 7 3 v7 rfl rfl) h7
  obtain ⟨tl, rfl, rfl, rfl, w8⟩ := open_int Tryf.underlying3 (hval 8 3 v8 rfl rfl) h8
  have lt0 : ∀ x ∈ p0, x.block < W.heap.size := by obtain ⟨m, hm⟩ := h0; exact DataW.trod_lt m _ _ _ hm
  have lt3 : ∀ x ∈ p3, x.block < W.heap.size := by obtain ⟨m, hm⟩ := h3; exact DataW.trod_lt m _ _ _ hm
  have lt4 : ∀ x ∈ p4, x.block < W.heap.size := by obtain ⟨m, hm⟩ := h4; exact DataW.trod_lt m _ _ _ hm
  obtain ⟨xa, len, cap, B, rfl, hfile, hB, hlm⟩ := openFile (hval 0 22 v0 rfl rfl) h0
  obtain ⟨t0, t1, t2, t3, st, bd, en, rfl⟩ := open32 (hval 3 32 v3 rfl rfl) h3
  obtain ⟨sz, fl, hs, hf, rfl, ws, wf⟩ := open27 (hval 4 27 v4 rfl rfl) h4
  clear hA0 hV0 hval0
  refine (law8 xa len cap far left t0 t1 t2 t3 st bd en sz fl base' next hd tl hs hf B W hfile hB hlm (wf_u64 w2) (wf_u32 ws).1 (wf_u32 ws).2 (wf_u32 wf).1 (wf_u32 wf).2).mono fun e W' ⟨he, bel⟩ => ?_
  subst he
  exact ⟨_, rfl, _, _, _, [], _, [], hW', trodAll_mk1 (shut_bool Tryf.underlying4 _), (trodAll_cons_mk (Below.trod laidOut (by kernel_rfl) (of_decide_eq_true (by kernel_rfl)) h0 bel lt0) (trodAll_cons_mk (shut_int Tryf.underlying2 w1) (trodAll_cons_mk (shut_int Tryf.underlying42 w2) (trodAll_cons_mk (Below.trod laidOut (by kernel_rfl) (of_decide_eq_true (by kernel_rfl)) h3 bel lt3) (trodAll_cons_mk (Below.trod laidOut (by kernel_rfl) (of_decide_eq_true (by kernel_rfl)) h4 bel lt4) (trodAll_cons_mk (shut_int Tryf.underlying2 w5) (trodAll_cons_mk (shut_int Tryf.underlying2 w6) (trodAll_cons_mk (shut_int Tryf.underlying3 w7) (trodAll_cons_mk (shut_int Tryf.underlying3 w8) trodAll_mk0))))))))), rfl, bel.frame _, fun h => by cases h⟩
end Go.Proofs.Qxb6613648aFmt

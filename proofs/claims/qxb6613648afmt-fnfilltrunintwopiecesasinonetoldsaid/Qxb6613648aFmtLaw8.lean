/-
  FnFillTrunInTwoPiecesAsInOne: whole.
-/
import Derived.Test.Qxb6613648aFmtLaw8R
import Derived.Test.Qxb6613648aFmtLaw7
namespace Go.Proofs.Qxb6613648aFmt
open Go.RowKit
set_option linter.unusedVariables false
set_option linter.unusedSimpArgs false
attribute [local go_sem] setCell_drewN alloc_drewN

set_option maxRecDepth 1000000 in
set_option maxHeartbeats 8000000 in
theorem law8 (xa : Option Addr) (len cap : Nat) (far left t0 t1 t2 t3 st bd en sz fl base next hd tl : Int) (hs hf : Bool) (B : Nat → Int) (W : World) (hfile : FileIn W xa len cap B) (hB : Byte B) (hlm : len ≤ maxLen) (hl0 : 0 ≤ left) (hsz0 : 0 ≤ sz) (hsz1 : sz ≤ 4294967295) (hfl0 : 0 ≤ fl) (hfl1 : fl ≤ 4294967295) :
    Calls Tryf.prog 8 #[.slice xa len cap, .int .i64 far, .int .u64 left, boxV t0 t1 t2 t3 st bd en, defV sz fl hs hf, .int .i64 base, .int .i64 next, .int .i64 hd, .int .i64 tl] W fun e w' => e = .returned (.bool true) ∧ Below W.heap.size W w' := by
  have HFi : Hid (FileIn W xa len cap B ∧ Byte B) := ⟨hfile, hB⟩
  have HS : Hid (Bas W ((W.alloc (.cells #[.int .u8 t0, .int .u8 t1, .int .u8 t2, .int .u8 t3, .int .i64 st, .int .i64 bd, .int .i64 en] 32)).alloc (.cells #[.int .u32 sz, .int .u32 fl, .bool hs, .bool hf] 27)) #[.int .u8 t0, .int .u8 t1, .int .u8 t2, .int .u8 t3, .int .i64 st, .int .i64 bd, .int .i64 en] #[.int .u32 sz, .int .u32 fl, .bool hs, .bool hf]) := Bas.start W _ _
  clear hfile hB
  go_enter Tryf.func8, Tryf.ntmps8
  go_wp2_with fail
  refine (bytes44 xa len cap far left t0 t1 t2 t3 st bd en sz fl hs hf base next hd tl _ hlm).mono ?_
  rintro e w1 ⟨⟨r, rfl, hr⟩, h1⟩
  have H1 : Hid (Bas W w1 #[.int .u8 t0, .int .u8 t1, .int .u8 t2, .int .u8 t3, .int .i64 st, .int .i64 bd, .int .i64 en] #[.int .u32 sz, .int .u32 fl, .bool hs, .bool hf]) := HS.out.step h1
  have HR : Hid (r = true → len ≤ 1048576) := hr
  clear h1 hr HS
  have bC : ∀ i, w1.cell? ⟨W.heap.size, i, none⟩ = (#[.int .u8 t0, .int .u8 t1, .int .u8 t2, .int .u8 t3, .int .i64 st, .int .i64 bd, .int .i64 en] : Array Value)[i]? := fun i => by simp [World.cell?, H1.out.bb]
  cases r with
  | false =>
    go_wp2
    go_ret
    exact ⟨rfl, H1.out.below⟩
  | true =>
    have hlen := HR.out rfl
    clear HR
    go_wp2_with fail
    refine (guards_any xa len cap far left t0 t1 t2 t3 st bd en base next w1 hlen hl0).mono ?_
    rintro e w2 ⟨⟨r, rfl, hr⟩, h2⟩
    have H2 : Hid (Bas W w2 #[.int .u8 t0, .int .u8 t1, .int .u8 t2, .int .u8 t3, .int .i64 st, .int .i64 bd, .int .i64 en] #[.int .u32 sz, .int .u32 fl, .bool hs, .bool hf]) := H1.out.step h2
    have HR : Hid (r = true → Guards len far left st bd en base next) := hr
    clear h2 hr H1 bC
    cases r with
    | false =>
      go_wp2
      go_ret
      exact ⟨rfl, H2.out.below⟩
    | true =>
      have hG := HR.out rfl
      obtain ⟨g1, g2, g3, ⟨f1, f2, f3, f4⟩, g5, g6, g7, g8⟩ := hG
      clear HR
      obtain ⟨bd, rfl⟩ : ∃ n : Nat, bd = n := ⟨bd.toNat, by omega⟩
      obtain ⟨en, rfl⟩ : ∃ n : Nat, en = n := ⟨en.toNat, by omega⟩
      have hbe : bd ≤ en := by omega
      have hel : en ≤ len := by omega
      by_cases hd0 : hd < 0
      · go_wp2
        go_ret
        exact ⟨rfl, H2.out.below⟩
      · by_cases hd1 : hd ≤ 65536
        case neg =>
          have hd2 : 65536 < hd := by omega
          go_wp2
          go_ret
          exact ⟨rfl, H2.out.below⟩
        obtain ⟨hd, rfl⟩ : ∃ n : Nat, hd = n := ⟨hd.toNat, by omega⟩
        have hhd : hd ≤ 65536 := by omega
        clear hd0 hd1
        by_cases tl0 : tl < 0
        case pos =>
          go_wp2
          go_ret
          exact ⟨rfl, H2.out.below⟩
        by_cases tl1 : tl ≤ 65536
        case neg =>
          have tl2 : 65536 < tl := by omega
          go_wp2
          go_ret
          exact ⟨rfl, H2.out.below⟩
        obtain ⟨tl, rfl⟩ : ∃ n : Nat, tl = n := ⟨tl.toNat, by omega⟩
        have htl : tl ≤ 65536 := by omega
        clear tl0 tl1
        go_wp2_with fail
        refine (clone_any W xa len cap B w2 HFi.out.1 H2.out.below hlen).mono ?_
        rintro e w3 ⟨ya, rfl, h3x, h3⟩
        have H3 : Hid (Bas W w3 #[.int .u8 t0, .int .u8 t1, .int .u8 t2, .int .u8 t3, .int .i64 st, .int .i64 bd, .int .i64 en] #[.int .u32 sz, .int .u32 fl, .bool hs, .bool hf] ∧ ((ya = none ∧ len = 0) ∨ ∃ F, ya = some ⟨F, 0, none⟩ ∧ Row w3 F len B)) := ⟨H2.out.step h3, h3x⟩
        clear h3 h3x H2
        have bC : ∀ i, w3.cell? ⟨W.heap.size, i, none⟩ = (#[.int .u8 t0, .int .u8 t1, .int .u8 t2, .int .u8 t3, .int .i64 st, .int .i64 bd, .int .i64 en] : Array Value)[i]? := fun i => by simp [World.cell?, H3.out.1.bb]
        have dC : ∀ i, w3.cell? ⟨W.heap.size + 1, i, none⟩ = (#[.int .u32 sz, .int .u32 fl, .bool hs, .bool hf] : Array Value)[i]? := fun i => by simp [World.cell?, H3.out.1.dd]
        go_wp2_with fail
        refine (model_any ya len far left t0 t1 t2 t3 st sz fl bd en hs hf base next B w3 H3.out.2 HFi.out.2 hbe hel hlen g5 (by omega) g7 (by omega) hl0 g1 hsz0 hsz1).mono ?_
        rintro e w4 ⟨⟨ok, dc, n, at', ent, en2, wd, sa, fa, fs, ff, fhs, fhf, rfl, hq⟩, h4⟩
        have H4 : Hid (Bas W w4 #[.int .u8 t0, .int .u8 t1, .int .u8 t2, .int .u8 t3, .int .i64 st, .int .i64 bd, .int .i64 en] #[.int .u32 sz, .int .u32 fl, .bool hs, .bool hf] ∧ Below w3.heap.size w3 w4) := ⟨H3.out.1.step h4, h4⟩
        have HQ : Hid (ok = true → (∃ F, ya = some ⟨F, 0, none⟩ ∧ Row w3 F len B) ∧ MFacts B bd en sz fl hs hf base next left n at' ent wd sa fa fs ff fhs fhf) := hq
        clear h4 hq bC dC
        have HB4 : Hid (∀ o, Below W.heap.size W (w4.alloc o)) := fun o => H4.out.1.below.alloc H4.out.1.below.size o
        cases ok with
        | false =>
          go_wp2
          go_ret
          exact ⟨rfl, HB4.out _⟩
        | true =>
          obtain ⟨⟨F, rfl, hF⟩, hM⟩ := HQ.out rfl
          by_cases hn0 : n ≤ hd
          · clear HQ hM hF
            go_wp2
            go_ret
            exact ⟨rfl, HB4.out _⟩
          · have HF : Hid (Row w3 F len B ∧ MFacts B bd en sz fl hs hf base next left n at' ent wd sa fa fs ff fhs fhf ∧ ¬ n ≤ hd) := ⟨hF, hM, hn0⟩
            clear HQ hM hF
            go_upto_region 11 with fail
            go_cut [100] (fun s wx => s = .bool false ∧ wx = w4.alloc (.cells #[.bool true, .bool dc, .int .i64 n, .int .i64 at', .int .i64 ent, .int .i64 en2, .int .i64 wd, .int .i64 sa, .int .i64 fa, .int .u32 fs, .int .u32 ff, .bool fhs, .bool fhf] 57))
            case first =>
              go_wp2
              go_meet
              exact ⟨by rw [decide_eq_false (by omega : ¬ n ≤ (hd : Int))], rfl⟩
            case rest =>
              rename_i KA hKA KB hKB
              obtain ⟨rfl, rfl⟩ := hcut
              refine hKB _ _ (wp_cond_false rfl (wp_skip (hKA _ _ ?_)))
              obtain ⟨hF, hM, hn0'⟩ := HF.out
              obtain ⟨m1, m2, m3, m4, m5, m6, m7, m8, m9, m10, m11, m12, m13, m14, m15⟩ := hM
              have nb := be_bd HFi.out.2 (bd + 4)
              have hb1 := bitI_bd (be24 B bd) 1
              have hb4 := bitI_bd (be24 B bd) 4
              have wb := saOf_bd (be24 B bd)
              have eb : 0 ≤ ent := by rw [m4]; unfold hdrOf; omega
              obtain ⟨cn, rfl⟩ : ∃ k : Nat, n = k := ⟨n.toNat, by omega⟩
              obtain ⟨e0, rfl⟩ : ∃ k : Nat, ent = k := ⟨ent.toNat, by omega⟩
              obtain ⟨v, rfl⟩ : ∃ k : Nat, wd = k := ⟨wd.toNat, by omega⟩
              have hba : Below w4.heap.size w4 (w4.alloc (.cells #[.bool true, .bool dc, .int .i64 cn, .int .i64 at', .int .i64 e0, .int .i64 en2, .int .i64 v, .int .i64 sa, .int .i64 fa, .int .u32 fs, .int .u32 ff, .bool fhs, .bool fhf] 57)) := (Below.refl _ _).alloc (Nat.le_refl _) _
              have hbs := H4.out.1.step hba
              have hF4 := (hF.below H4.out.2 hF.lt)
              exact l8_13 len cn e0 v F W.heap.size (W.heap.size + 1) w4.heap.size hd tl bd en far left at' sa fa sz ff fl fs en2 base next t0 t1 t2 t3 st hs hf true dc fhs fhf B _ _ _ _ _ _ _ _ _ _ _ _ _ _ _ _ _ _ _ _ _ _ _ _ _ _ _ _ _ _ _ _ _ _ _ _ _ _ _ _ _ _ _ _ _ _ _ _ _ _ _ _ _ _ _ _ _ _ _ _ _ _ _ _ _ _ _ _ _ _ _ _ _ _ _ _ _ _ _ _ _ _ _ _ _ _ _ _ _ _ _ _ _ _ _ _ _ _ _ _ _ _ _ _ _ _ _ _ _ _ _ _ _ _ _ _ _ _ _ _ _ _ _ _ _ _ _ _ _ _ _ _ _ _ _ _ _ _ _ _ _ _ _ _ _ _ _ _ _ _ _ _ _ _ _ _ _ _ _ _ _ _ _ _ _ _ _ _ _ _ _ _ _ _ _ _ _ _ _ _ _ _ _ _ _ _ _ _ _ _ _ _ _ _ _ _ _ _ _ _ _ _ _ _ _ _ _ _ _ _ _ _ _ _ _ _ _ _ _ _ _ _ _ _ _ _ _ _ _ _ _ _ _ _ _ _ _ _ _ _ _ _ _ _ _ _ _ _ _ _ _ _ _ _ ⟨hF4.below hba hF4.lt, hbs.bb, hbs.dd, alloc_new rfl⟩ ⟨m1, m3, m4, m5, m6, m7, m9, m2, m12, by omega, fun h => by have := m14 (by omega); rw [m11] at this; exact this, fun h => m15 (by omega)⟩
                (by omega) hel hlen HFi.out.2 hsz0 hsz1 hfl0 hfl1 (by omega) g3 g5 g6 g7 g8 g1 (by omega) htl (fun w' h => ⟨rfl, hbs.below.trans (h.mono hbs.below.size)⟩)
end Go.Proofs.Qxb6613648aFmt

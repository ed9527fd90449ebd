/-
  modelTrun, whole: the run that the box tells, or none.
-/
import Derived.Test.Qxb6613648aFmtMFront
namespace Go.Proofs.Qxb6613648aFmt
open Go.RowKit
set_option linter.unusedVariables false
attribute [local go_sem] setCell_drewN alloc_drewN

set_option maxRecDepth 1000000 in
set_option maxHeartbeats 4000000 in
/-- The header doesn't fit: no run. -/
theorem model_nohdr (F len cap : Nat) (B : Nat → Int) (far left t0 t1 t2 t3 st sz fl : Int) (bd en : Nat) (hs hf : Bool) (base next : Int) (w : World) (hR : Row w F len B) (hB : Byte B) (h1 : bd + 4 ≤ en) (h2 : en ≤ len) (h3 : len ≤ 1048576) (hcap : len ≤ cap)
    (hb0 : 0 ≤ base) (hb1 : base ≤ 4611686018427387904) (hn0 : 0 ≤ next) (hn1 : next ≤ 4611686018427387904) (hl0 : 0 ≤ left) (hl1 : left ≤ 65536) (hsz0 : 0 ≤ sz) (hsz1 : sz ≤ 4294967295)
    (f : Int) (hf' : f = be24 B bd) (bb1 : 0 ≤ bitI f 1 ∧ bitI f 1 ≤ 1) (bb4 : 0 ≤ bitI f 4 ∧ bitI f 4 ≤ 1) (hq : ¬ 8 + 4 * bitI f 1 + 4 * bitI f 4 ≤ (en : Int) - bd) :
    Calls Tryf.prog 24 #[.slice (some ⟨F, 0, none⟩) len cap, .int .i64 far, .int .u64 left, boxV t0 t1 t2 t3 st bd en, defV sz fl hs hf, .int .i64 base, .int .i64 next] w fun e w' => MPost (MFacts B bd en sz fl hs hf base next left) e ∧ Below w.heap.size w w' := by
  have EF : Hid (f = be24 B bd) := hf'
  have HR : Hid (Row w F len B) := hR
  have HB : Hid (Byte B) := hB
  clear hf' hR hB
  by_cases lt1 : bd + 4 < cap
  · have HA0 : Hid (MAt w ((((w.alloc (.cells #[.int .u8 t0, .int .u8 t1, .int .u8 t2, .int .u8 t3, .int .i64 st, .int .i64 bd, .int .i64 en] 32)).alloc (.cells #[.int .u32 sz, .int .u32 fl, .bool hs, .bool hf] 27)).alloc (.cells #[.bool false, .bool false, .int .i64 0, .int .i64 0, .int .i64 0, .int .i64 0, .int .i64 0, .int .i64 0, .int .i64 0, .int .u32 0, .int .u32 0, .bool false, .bool false] 57)).alloc (.cells #[.bool false, .bool false, .int .i64 0, .int .i64 0, .int .i64 0, .int .i64 0, .int .i64 0, .int .i64 0, .int .i64 0, .int .u32 0, .int .u32 0, .bool false, .bool false] 57)) #[.int .u8 t0, .int .u8 t1, .int .u8 t2, .int .u8 t3, .int .i64 st, .int .i64 bd, .int .i64 en] #[.int .u32 sz, .int .u32 fl, .bool hs, .bool hf] #[.bool false, .bool false, .int .i64 0, .int .i64 0, .int .i64 0, .int .i64 0, .int .i64 0, .int .i64 0, .int .i64 0, .int .u32 0, .int .u32 0, .bool false, .bool false]) := MAt.start w #[.int .u8 t0, .int .u8 t1, .int .u8 t2, .int .u8 t3, .int .i64 st, .int .i64 bd, .int .i64 en] #[.int .u32 sz, .int .u32 fl, .bool hs, .bool hf] #[.bool false, .bool false, .int .i64 0, .int .i64 0, .int .i64 0, .int .i64 0, .int .i64 0, .int .i64 0, .int .i64 0, .int .u32 0, .int .u32 0, .bool false, .bool false] 0
    have hFlt := HR.out.lt
    go_enter Tryf.func24, Tryf.ntmps24
    go_upto_region 5 with fail
    generalize (((w.alloc (.cells #[.int .u8 t0, .int .u8 t1, .int .u8 t2, .int .u8 t3, .int .i64 st, .int .i64 bd, .int .i64 en] 32)).alloc (.cells #[.int .u32 sz, .int .u32 fl, .bool hs, .bool hf] 27)).alloc (.cells #[.bool false, .bool false, .int .i64 0, .int .i64 0, .int .i64 0, .int .i64 0, .int .i64 0, .int .i64 0, .int .i64 0, .int .u32 0, .int .u32 0, .bool false, .bool false] 57)).alloc (.cells #[.bool false, .bool false, .int .i64 0, .int .i64 0, .int .i64 0, .int .i64 0, .int .i64 0, .int .i64 0, .int .i64 0, .int .u32 0, .int .u32 0, .bool false, .bool false] 57) = w0 at HA0 ⊢
    have mC : ∀ i, w0.cell? ⟨w.heap.size + 1 + 1 + 1, i, none⟩ = (#[.bool false, .bool false, .int .i64 0, .int .i64 0, .int .i64 0, .int .i64 0, .int .i64 0, .int .i64 0, .int .i64 0, .int .u32 0, .int .u32 0, .bool false, .bool false] : Array Value)[i]? := by intro i; simp [World.cell?, HA0.out.mm]
    have mF : ∀ i, w0.frozen? ⟨w.heap.size + 1 + 1 + 1, i, none⟩ = false := by intro i; simp [World.frozen?, HA0.out.mm]
    have dC : ∀ i, w0.cell? ⟨w.heap.size + 1, i, none⟩ = (#[.int .u32 sz, .int .u32 fl, .bool hs, .bool hf] : Array Value)[i]? := by intro i; simp [World.cell?, HA0.out.dd]
    have aC : ∀ i, w0.cell? ⟨w.heap.size, i, none⟩ = (#[.int .u8 t0, .int .u8 t1, .int .u8 t2, .int .u8 t3, .int .i64 st, .int .i64 bd, .int .i64 en] : Array Value)[i]? := by intro i; simp [World.cell?, HA0.out.aa]
    have zC : ∀ i, w0.cell? ⟨w.heap.size + 1 + 1, i, none⟩ = (#[.bool false, .bool false, .int .i64 0, .int .i64 0, .int .i64 0, .int .i64 0, .int .i64 0, .int .i64 0, .int .i64 0, .int .u32 0, .int .u32 0, .bool false, .bool false] : Array Value)[i]? := by intro i; simp [World.cell?, HA0.out.zz]
    have zF : ∀ i, w0.frozen? ⟨w.heap.size + 1 + 1, i, none⟩ = false := by intro i; simp [World.frozen?, HA0.out.zz]
    go_wp2_with fail
    refine (flags_at F len bd (en - bd) (cap - bd) B w0 f EF.out (HR.out.below HA0.out.below hFlt) HB.out h3 (by omega) (by omega)).mono ?_
    rintro e w1 ⟨rfl, n1, hw1⟩
    have HA1 : Hid (MAt w w1 #[.int .u8 t0, .int .u8 t1, .int .u8 t2, .int .u8 t3, .int .i64 st, .int .i64 bd, .int .i64 en] #[.int .u32 sz, .int .u32 fl, .bool hs, .bool hf] #[.bool false, .bool false, .int .i64 0, .int .i64 0, .int .i64 0, .int .i64 0, .int .i64 0, .int .i64 0, .int .i64 0, .int .u32 0, .int .u32 0, .bool false, .bool false]) := HA0.out.step (by rw [hw1]; exact below_drewN (Below.refl _ _) _)
    clear hw1 HA0 mC mF dC aC zC zF
    have mC : ∀ i, w1.cell? ⟨w.heap.size + 1 + 1 + 1, i, none⟩ = (#[.bool false, .bool false, .int .i64 0, .int .i64 0, .int .i64 0, .int .i64 0, .int .i64 0, .int .i64 0, .int .i64 0, .int .u32 0, .int .u32 0, .bool false, .bool false] : Array Value)[i]? := by intro i; simp [World.cell?, HA1.out.mm]
    have mF : ∀ i, w1.frozen? ⟨w.heap.size + 1 + 1 + 1, i, none⟩ = false := by intro i; simp [World.frozen?, HA1.out.mm]
    have dC : ∀ i, w1.cell? ⟨w.heap.size + 1, i, none⟩ = (#[.int .u32 sz, .int .u32 fl, .bool hs, .bool hf] : Array Value)[i]? := by intro i; simp [World.cell?, HA1.out.dd]
    have aC : ∀ i, w1.cell? ⟨w.heap.size, i, none⟩ = (#[.int .u8 t0, .int .u8 t1, .int .u8 t2, .int .u8 t3, .int .i64 st, .int .i64 bd, .int .i64 en] : Array Value)[i]? := by intro i; simp [World.cell?, HA1.out.aa]
    have zC : ∀ i, w1.cell? ⟨w.heap.size + 1 + 1, i, none⟩ = (#[.bool false, .bool false, .int .i64 0, .int .i64 0, .int .i64 0, .int .i64 0, .int .i64 0, .int .i64 0, .int .i64 0, .int .u32 0, .int .u32 0, .bool false, .bool false] : Array Value)[i]? := by intro i; simp [World.cell?, HA1.out.zz]
    have zF : ∀ i, w1.frozen? ⟨w.heap.size + 1 + 1, i, none⟩ = false := by intro i; simp [World.frozen?, HA1.out.zz]
    go_wp2_with fail
    refine (bit_any f 1 _).mono ?_
    rintro e w2 ⟨rfl, hw⟩; obtain rfl := hw.symm
    go_wp2_with fail
    refine (bit_any f 4 _).mono ?_
    rintro e w2 ⟨rfl, hw⟩; obtain rfl := hw.symm
    go_wp2
    exact bodyPost_ret (v := mV false false 0 0 0 0 0 0 0 0 0 false false) (by simp [results, Tryf.results24, go_sem, zC]) rfl ⟨.no, (((((((((((((HA1.out.below.setCell (by simp; omega) _).setCell (by simp; omega) _).setCell (by simp; omega) _).setCell (by simp; omega) _).setCell (by simp; omega) _).setCell (by simp; omega) _).setCell (by simp; omega) _).setCell (by simp; omega) _).setCell (by simp; omega) _).setCell (by simp; omega) _).setCell (by simp; omega) _).setCell (by simp; omega) _).setCell (by simp; omega) _)⟩
  · obtain rfl : cap = bd + 4 := by omega
    obtain rfl : len = bd + 4 := by omega
    obtain rfl : en = bd + 4 := by omega
    have HA0 : Hid (MAt w ((((w.alloc (.cells #[.int .u8 t0, .int .u8 t1, .int .u8 t2, .int .u8 t3, .int .i64 st, .int .i64 bd, .int .i64 ((bd : Int) + 4)] 32)).alloc (.cells #[.int .u32 sz, .int .u32 fl, .bool hs, .bool hf] 27)).alloc (.cells #[.bool false, .bool false, .int .i64 0, .int .i64 0, .int .i64 0, .int .i64 0, .int .i64 0, .int .i64 0, .int .i64 0, .int .u32 0, .int .u32 0, .bool false, .bool false] 57)).alloc (.cells #[.bool false, .bool false, .int .i64 0, .int .i64 0, .int .i64 0, .int .i64 0, .int .i64 0, .int .i64 0, .int .i64 0, .int .u32 0, .int .u32 0, .bool false, .bool false] 57)) #[.int .u8 t0, .int .u8 t1, .int .u8 t2, .int .u8 t3, .int .i64 st, .int .i64 bd, .int .i64 ((bd : Int) + 4)] #[.int .u32 sz, .int .u32 fl, .bool hs, .bool hf] #[.bool false, .bool false, .int .i64 0, .int .i64 0, .int .i64 0, .int .i64 0, .int .i64 0, .int .i64 0, .int .i64 0, .int .u32 0, .int .u32 0, .bool false, .bool false]) := MAt.start w #[.int .u8 t0, .int .u8 t1, .int .u8 t2, .int .u8 t3, .int .i64 st, .int .i64 bd, .int .i64 ((bd : Int) + 4)] #[.int .u32 sz, .int .u32 fl, .bool hs, .bool hf] #[.bool false, .bool false, .int .i64 0, .int .i64 0, .int .i64 0, .int .i64 0, .int .i64 0, .int .i64 0, .int .i64 0, .int .u32 0, .int .u32 0, .bool false, .bool false] 0
    have hFlt := HR.out.lt
    go_enter Tryf.func24, Tryf.ntmps24
    go_upto_region 5 with fail
    generalize (((w.alloc (.cells #[.int .u8 t0, .int .u8 t1, .int .u8 t2, .int .u8 t3, .int .i64 st, .int .i64 bd, .int .i64 ((bd : Int) + 4)] 32)).alloc (.cells #[.int .u32 sz, .int .u32 fl, .bool hs, .bool hf] 27)).alloc (.cells #[.bool false, .bool false, .int .i64 0, .int .i64 0, .int .i64 0, .int .i64 0, .int .i64 0, .int .i64 0, .int .i64 0, .int .u32 0, .int .u32 0, .bool false, .bool false] 57)).alloc (.cells #[.bool false, .bool false, .int .i64 0, .int .i64 0, .int .i64 0, .int .i64 0, .int .i64 0, .int .i64 0, .int .i64 0, .int .u32 0, .int .u32 0, .bool false, .bool false] 57) = w0 at HA0 ⊢
    have mC : ∀ i, w0.cell? ⟨w.heap.size + 1 + 1 + 1, i, none⟩ = (#[.bool false, .bool false, .int .i64 0, .int .i64 0, .int .i64 0, .int .i64 0, .int .i64 0, .int .i64 0, .int .i64 0, .int .u32 0, .int .u32 0, .bool false, .bool false] : Array Value)[i]? := by intro i; simp [World.cell?, HA0.out.mm]
    have mF : ∀ i, w0.frozen? ⟨w.heap.size + 1 + 1 + 1, i, none⟩ = false := by intro i; simp [World.frozen?, HA0.out.mm]
    have dC : ∀ i, w0.cell? ⟨w.heap.size + 1, i, none⟩ = (#[.int .u32 sz, .int .u32 fl, .bool hs, .bool hf] : Array Value)[i]? := by intro i; simp [World.cell?, HA0.out.dd]
    have aC : ∀ i, w0.cell? ⟨w.heap.size, i, none⟩ = (#[.int .u8 t0, .int .u8 t1, .int .u8 t2, .int .u8 t3, .int .i64 st, .int .i64 bd, .int .i64 ((bd : Int) + 4)] : Array Value)[i]? := by intro i; simp [World.cell?, HA0.out.aa]
    have zC : ∀ i, w0.cell? ⟨w.heap.size + 1 + 1, i, none⟩ = (#[.bool false, .bool false, .int .i64 0, .int .i64 0, .int .i64 0, .int .i64 0, .int .i64 0, .int .i64 0, .int .i64 0, .int .u32 0, .int .u32 0, .bool false, .bool false] : Array Value)[i]? := by intro i; simp [World.cell?, HA0.out.zz]
    have zF : ∀ i, w0.frozen? ⟨w.heap.size + 1 + 1, i, none⟩ = false := by intro i; simp [World.frozen?, HA0.out.zz]
    go_wp2_with fail
    refine (flags_at F (bd + 4) bd _ _ B w0 f EF.out (HR.out.below HA0.out.below hFlt) HB.out h3 (by omega) (by omega)).mono ?_
    rintro e w1 ⟨rfl, n1, hw1⟩
    have HA1 : Hid (MAt w w1 #[.int .u8 t0, .int .u8 t1, .int .u8 t2, .int .u8 t3, .int .i64 st, .int .i64 bd, .int .i64 ((bd : Int) + 4)] #[.int .u32 sz, .int .u32 fl, .bool hs, .bool hf] #[.bool false, .bool false, .int .i64 0, .int .i64 0, .int .i64 0, .int .i64 0, .int .i64 0, .int .i64 0, .int .i64 0, .int .u32 0, .int .u32 0, .bool false, .bool false]) := HA0.out.step (by rw [hw1]; exact below_drewN (Below.refl _ _) _)
    clear hw1 HA0 mC mF dC aC zC zF
    have mC : ∀ i, w1.cell? ⟨w.heap.size + 1 + 1 + 1, i, none⟩ = (#[.bool false, .bool false, .int .i64 0, .int .i64 0, .int .i64 0, .int .i64 0, .int .i64 0, .int .i64 0, .int .i64 0, .int .u32 0, .int .u32 0, .bool false, .bool false] : Array Value)[i]? := by intro i; simp [World.cell?, HA1.out.mm]
    have mF : ∀ i, w1.frozen? ⟨w.heap.size + 1 + 1 + 1, i, none⟩ = false := by intro i; simp [World.frozen?, HA1.out.mm]
    have dC : ∀ i, w1.cell? ⟨w.heap.size + 1, i, none⟩ = (#[.int .u32 sz, .int .u32 fl, .bool hs, .bool hf] : Array Value)[i]? := by intro i; simp [World.cell?, HA1.out.dd]
    have aC : ∀ i, w1.cell? ⟨w.heap.size, i, none⟩ = (#[.int .u8 t0, .int .u8 t1, .int .u8 t2, .int .u8 t3, .int .i64 st, .int .i64 bd, .int .i64 ((bd : Int) + 4)] : Array Value)[i]? := by intro i; simp [World.cell?, HA1.out.aa]
    have zC : ∀ i, w1.cell? ⟨w.heap.size + 1 + 1, i, none⟩ = (#[.bool false, .bool false, .int .i64 0, .int .i64 0, .int .i64 0, .int .i64 0, .int .i64 0, .int .i64 0, .int .i64 0, .int .u32 0, .int .u32 0, .bool false, .bool false] : Array Value)[i]? := by intro i; simp [World.cell?, HA1.out.zz]
    have zF : ∀ i, w1.frozen? ⟨w.heap.size + 1 + 1, i, none⟩ = false := by intro i; simp [World.frozen?, HA1.out.zz]
    go_wp2_with fail
    refine (bit_any f 1 _).mono ?_
    rintro e w2 ⟨rfl, hw⟩; obtain rfl := hw.symm
    go_wp2_with fail
    refine (bit_any f 4 _).mono ?_
    rintro e w2 ⟨rfl, hw⟩; obtain rfl := hw.symm
    go_wp2
    exact bodyPost_ret (v := mV false false 0 0 0 0 0 0 0 0 0 false false) (by simp [results, Tryf.results24, go_sem, zC]) rfl ⟨.no, (((((((((((((HA1.out.below.setCell (by simp; omega) _).setCell (by simp; omega) _).setCell (by simp; omega) _).setCell (by simp; omega) _).setCell (by simp; omega) _).setCell (by simp; omega) _).setCell (by simp; omega) _).setCell (by simp; omega) _).setCell (by simp; omega) _).setCell (by simp; omega) _).setCell (by simp; omega) _).setCell (by simp; omega) _).setCell (by simp; omega) _)⟩
set_option maxRecDepth 1000000 in
set_option maxHeartbeats 4000000 in
theorem model_long (F len cap : Nat) (B : Nat → Int) (far left t0 t1 t2 t3 st sz fl : Int) (bd en : Nat) (hs hf : Bool) (base next : Int) (w : World) (hR : Row w F len B) (hB : Byte B) (h1 : bd + 4 ≤ en) (h2 : en ≤ len) (h3 : len ≤ 1048576) (hcap : len ≤ cap)
    (hb0 : 0 ≤ base) (hb1 : base ≤ 4611686018427387904) (hn0 : 0 ≤ next) (hn1 : next ≤ 4611686018427387904) (hl0 : 0 ≤ left) (hl1 : left ≤ 65536) (hsz0 : 0 ≤ sz) (hsz1 : sz ≤ 4294967295) :
    Calls Tryf.prog 24 #[.slice (some ⟨F, 0, none⟩) len cap, .int .i64 far, .int .u64 left, boxV t0 t1 t2 t3 st bd en, defV sz fl hs hf, .int .i64 base, .int .i64 next] w fun e w' => MPost (MFacts B bd en sz fl hs hf base next left) e ∧ Below w.heap.size w w' := by
  obtain ⟨f, ef⟩ : ∃ f, f = be24 B bd := ⟨_, rfl⟩
  have bb1 := bitI_bd f 1
  have bb4 := bitI_bd f 4
  by_cases hq : 8 + 4 * bitI f 1 + 4 * bitI f 4 ≤ (en : Int) - bd
  case neg => exact model_nohdr F len cap B far left t0 t1 t2 t3 st sz fl bd en hs hf base next w hR hB h1 h2 h3 hcap hb0 hb1 hn0 hn1 hl0 hl1 hsz0 hsz1 f ef bb1 bb4 hq
  obtain ⟨cnt, ec⟩ : ∃ c, c = be B (bd + 4) := ⟨_, rfl⟩
  obtain ⟨x8, e8⟩ : ∃ c, c = be B (bd + 8) := ⟨_, rfl⟩
  obtain ⟨hd, eh⟩ : ∃ h : Nat, (h : Int) = 4 + 4 * bitI f 1 + 4 * bitI f 4 := ⟨(4 + 4 * bitI f 1 + 4 * bitI f 4).toNat, by omega⟩
  obtain ⟨a, ea⟩ : ∃ a, a = if hasBit f 1 then base + wrap32 x8 else next := ⟨_, rfl⟩
  obtain ⟨x, ex⟩ : ∃ x, x = if hasBit f 4 then be B (bd + hd) else fl := ⟨_, rfl⟩
  obtain ⟨b, eb⟩ : ∃ b, b = (hasBit f 4 || hf) := ⟨_, rfl⟩
  obtain ⟨wd, ewd⟩ : ∃ b, b = wdOf f := ⟨_, rfl⟩
  obtain ⟨sa, esa⟩ : ∃ b, b = saOf f := ⟨_, rfl⟩
  obtain ⟨fa, efa⟩ : ∃ b, b = faOf f := ⟨_, rfl⟩
  have b256 := bitI_bd f 256
  have b512 := bitI_bd f 512
  have b1024 := bitI_bd f 1024
  have b2048 := bitI_bd f 2048
  have bc : 0 ≤ cnt ∧ cnt ≤ 4294967295 := by rw [ec]; exact be_bd hB _
  have bw := wrap_bd x8
  have hbd : -2147483648 ≤ a ∧ a ≤ 4611686020574871552 := by rw [ea]; split <;> omega
  have hwb : 0 ≤ wd ∧ wd ≤ 16 := by rw [ewd]; unfold wdOf; omega
  have hsb : -1 ≤ sa ∧ sa ≤ 4 ∧ (0 ≤ sa → sa + 4 ≤ wd) := by
    rw [esa, ewd]
    unfold saOf wdOf
    by_cases h : hasBit f 512 = true
    · have h1 : bitI f 512 = 1 := by unfold bitI; rw [h]; rfl
      rw [if_pos h]
      omega
    · rw [if_neg h]
      omega
  have HM : Hid (cnt * wd ≤ en - ((bd : Int) + 4 + (4 + 4 * bitI f 1 + 4 * bitI f 4)) → cnt ≤ left → (1 ≤ cnt → (hs = true ∨ 0 ≤ sa) ∧ (b = true ∨ 0 ≤ fa)) → (2 ≤ cnt → (hs = true ∨ 0 ≤ sa) ∧ (hf = true ∨ 0 ≤ fa)) → MFacts B bd en sz fl hs hf base next left cnt a ((bd : Int) + 4 + (4 + 4 * bitI f 1 + 4 * bitI f 4)) wd sa fa sz x hs b) := by
    intro h5 h6 h7 h8
    refine ⟨ec, h6, ?_, ?_, ?_, ?_, ?_, rfl, ?_, rfl, ?_, h5, by omega, h7, h8⟩
    · rw [ea, e8, ef]; rfl
    · rw [← ef]; rfl
    · rw [ewd, ef]
    · rw [esa, ef]
    · rw [efa, ef]
    · rw [ex, ← ef]
      unfold ffOf
      rw [show (hdrOf f).toNat = hd by unfold hdrOf; omega]
    · rw [eb, ← ef]
  have HR : Hid (Row w F len B) := hR
  have HB : Hid (Byte B) := hB
  have EF : Hid (f = be24 B bd) := ef
  have EC : Hid (cnt = be B (bd + 4)) := ec
  have E8 : Hid (x8 = be B (bd + 8)) := e8
  have EA : Hid (a = if hasBit f 1 then base + wrap32 x8 else next) := ea
  have HS : Hid ((fa = faOf f) ∧ (wd = wdOf f) ∧ (sa = saOf f) ∧ (x = if hasBit f 4 then be B (bd + hd) else fl) ∧ (b = (hasBit f 4 || hf)) ∧ ((hd : Int) = (4 + 4 * bitI f 1 + 4 * bitI f 4)) ∧ (0 ≤ sa → sa + 4 ≤ wd)) := ⟨efa, ewd, esa, ex, eb, eh, hsb.2.2⟩
  have HN : Hid (0 ≤ wd ∧ wd ≤ 16 ∧ -1 ≤ sa ∧ sa ≤ 4 ∧ -2147483648 ≤ a ∧ a ≤ 4611686020574871552) := ⟨hwb.1, hwb.2, hsb.1, hsb.2.1, hbd.1, hbd.2⟩
  clear hR hB ef ec e8 ea ex eb ewd esa efa eh hsb hwb hbd
  have lt1 : bd + 4 < cap := by omega
  have HA0 : Hid (MAt w ((((w.alloc (.cells #[.int .u8 t0, .int .u8 t1, .int .u8 t2, .int .u8 t3, .int .i64 st, .int .i64 bd, .int .i64 en] 32)).alloc (.cells #[.int .u32 sz, .int .u32 fl, .bool hs, .bool hf] 27)).alloc (.cells #[.bool false, .bool false, .int .i64 0, .int .i64 0, .int .i64 0, .int .i64 0, .int .i64 0, .int .i64 0, .int .i64 0, .int .u32 0, .int .u32 0, .bool false, .bool false] 57)).alloc (.cells #[.bool false, .bool false, .int .i64 0, .int .i64 0, .int .i64 0, .int .i64 0, .int .i64 0, .int .i64 0, .int .i64 0, .int .u32 0, .int .u32 0, .bool false, .bool false] 57)) #[.int .u8 t0, .int .u8 t1, .int .u8 t2, .int .u8 t3, .int .i64 st, .int .i64 bd, .int .i64 en] #[.int .u32 sz, .int .u32 fl, .bool hs, .bool hf] #[.bool false, .bool false, .int .i64 0, .int .i64 0, .int .i64 0, .int .i64 0, .int .i64 0, .int .i64 0, .int .i64 0, .int .u32 0, .int .u32 0, .bool false, .bool false]) := MAt.start w #[.int .u8 t0, .int .u8 t1, .int .u8 t2, .int .u8 t3, .int .i64 st, .int .i64 bd, .int .i64 en] #[.int .u32 sz, .int .u32 fl, .bool hs, .bool hf] #[.bool false, .bool false, .int .i64 0, .int .i64 0, .int .i64 0, .int .i64 0, .int .i64 0, .int .i64 0, .int .i64 0, .int .u32 0, .int .u32 0, .bool false, .bool false] 0
  have hFlt := HR.out.lt
  go_enter Tryf.func24, Tryf.ntmps24
  go_upto_region 5 with fail
  generalize (((w.alloc (.cells #[.int .u8 t0, .int .u8 t1, .int .u8 t2, .int .u8 t3, .int .i64 st, .int .i64 bd, .int .i64 en] 32)).alloc (.cells #[.int .u32 sz, .int .u32 fl, .bool hs, .bool hf] 27)).alloc (.cells #[.bool false, .bool false, .int .i64 0, .int .i64 0, .int .i64 0, .int .i64 0, .int .i64 0, .int .i64 0, .int .i64 0, .int .u32 0, .int .u32 0, .bool false, .bool false] 57)).alloc (.cells #[.bool false, .bool false, .int .i64 0, .int .i64 0, .int .i64 0, .int .i64 0, .int .i64 0, .int .i64 0, .int .i64 0, .int .u32 0, .int .u32 0, .bool false, .bool false] 57) = w0 at HA0 ⊢
  have mC : ∀ i, w0.cell? ⟨w.heap.size + 1 + 1 + 1, i, none⟩ = (#[.bool false, .bool false, .int .i64 0, .int .i64 0, .int .i64 0, .int .i64 0, .int .i64 0, .int .i64 0, .int .i64 0, .int .u32 0, .int .u32 0, .bool false, .bool false] : Array Value)[i]? := by intro i; simp [World.cell?, HA0.out.mm]
  have mF : ∀ i, w0.frozen? ⟨w.heap.size + 1 + 1 + 1, i, none⟩ = false := by intro i; simp [World.frozen?, HA0.out.mm]
  have dC : ∀ i, w0.cell? ⟨w.heap.size + 1, i, none⟩ = (#[.int .u32 sz, .int .u32 fl, .bool hs, .bool hf] : Array Value)[i]? := by intro i; simp [World.cell?, HA0.out.dd]
  have aC : ∀ i, w0.cell? ⟨w.heap.size, i, none⟩ = (#[.int .u8 t0, .int .u8 t1, .int .u8 t2, .int .u8 t3, .int .i64 st, .int .i64 bd, .int .i64 en] : Array Value)[i]? := by intro i; simp [World.cell?, HA0.out.aa]
  have zC : ∀ i, w0.cell? ⟨w.heap.size + 1 + 1, i, none⟩ = (#[.bool false, .bool false, .int .i64 0, .int .i64 0, .int .i64 0, .int .i64 0, .int .i64 0, .int .i64 0, .int .i64 0, .int .u32 0, .int .u32 0, .bool false, .bool false] : Array Value)[i]? := by intro i; simp [World.cell?, HA0.out.zz]
  have zF : ∀ i, w0.frozen? ⟨w.heap.size + 1 + 1, i, none⟩ = false := by intro i; simp [World.frozen?, HA0.out.zz]
  go_wp2_with fail
  refine (flags_at F len bd (en - bd) (cap - bd) B w0 f EF.out (HR.out.below HA0.out.below hFlt) HB.out h3 (by omega) (by omega)).mono ?_
  rintro e w1 ⟨rfl, n1, hw1⟩
  have HA1 : Hid (MAt w w1 #[.int .u8 t0, .int .u8 t1, .int .u8 t2, .int .u8 t3, .int .i64 st, .int .i64 bd, .int .i64 en] #[.int .u32 sz, .int .u32 fl, .bool hs, .bool hf] #[.bool false, .bool false, .int .i64 0, .int .i64 0, .int .i64 0, .int .i64 0, .int .i64 0, .int .i64 0, .int .i64 0, .int .u32 0, .int .u32 0, .bool false, .bool false]) := HA0.out.step (by rw [hw1]; exact below_drewN (Below.refl _ _) _)
  clear hw1 HA0 mC mF dC aC zC zF
  have mC : ∀ i, w1.cell? ⟨w.heap.size + 1 + 1 + 1, i, none⟩ = (#[.bool false, .bool false, .int .i64 0, .int .i64 0, .int .i64 0, .int .i64 0, .int .i64 0, .int .i64 0, .int .i64 0, .int .u32 0, .int .u32 0, .bool false, .bool false] : Array Value)[i]? := by intro i; simp [World.cell?, HA1.out.mm]
  have mF : ∀ i, w1.frozen? ⟨w.heap.size + 1 + 1 + 1, i, none⟩ = false := by intro i; simp [World.frozen?, HA1.out.mm]
  have dC : ∀ i, w1.cell? ⟨w.heap.size + 1, i, none⟩ = (#[.int .u32 sz, .int .u32 fl, .bool hs, .bool hf] : Array Value)[i]? := by intro i; simp [World.cell?, HA1.out.dd]
  have aC : ∀ i, w1.cell? ⟨w.heap.size, i, none⟩ = (#[.int .u8 t0, .int .u8 t1, .int .u8 t2, .int .u8 t3, .int .i64 st, .int .i64 bd, .int .i64 en] : Array Value)[i]? := by intro i; simp [World.cell?, HA1.out.aa]
  have zC : ∀ i, w1.cell? ⟨w.heap.size + 1 + 1, i, none⟩ = (#[.bool false, .bool false, .int .i64 0, .int .i64 0, .int .i64 0, .int .i64 0, .int .i64 0, .int .i64 0, .int .i64 0, .int .u32 0, .int .u32 0, .bool false, .bool false] : Array Value)[i]? := by intro i; simp [World.cell?, HA1.out.zz]
  have zF : ∀ i, w1.frozen? ⟨w.heap.size + 1 + 1, i, none⟩ = false := by intro i; simp [World.frozen?, HA1.out.zz]
  go_wp2_with fail
  refine (bit_any f 1 _).mono ?_
  rintro e w2 ⟨rfl, hw⟩; obtain rfl := hw.symm
  go_wp2_with fail
  refine (bit_any f 4 _).mono ?_
  rintro e w2 ⟨rfl, hw⟩; obtain rfl := hw.symm
  go_wp2_with fail
  refine (be32_at F len (bd + 4) (en - bd - 4) (cap - bd - 4) B 0 w1 cnt EC.out (HR.out.below HA1.out.below hFlt) HB.out h3 (by omega) (by omega)).mono ?_
  rintro e w3 ⟨rfl, n2, hw3⟩
  have HA3 : Hid (MAt w w3 #[.int .u8 t0, .int .u8 t1, .int .u8 t2, .int .u8 t3, .int .i64 st, .int .i64 bd, .int .i64 en] #[.int .u32 sz, .int .u32 fl, .bool hs, .bool hf] #[.bool false, .bool false, .int .i64 0, .int .i64 0, .int .i64 0, .int .i64 0, .int .i64 0, .int .i64 0, .int .i64 0, .int .u32 0, .int .u32 0, .bool false, .bool false]) := HA1.out.step (by rw [hw3]; exact below_drewN (Below.refl _ _) _)
  clear hw3 HA1 mC mF dC aC zC zF
  have mC : ∀ i, w3.cell? ⟨w.heap.size + 1 + 1 + 1, i, none⟩ = (#[.bool false, .bool false, .int .i64 0, .int .i64 0, .int .i64 0, .int .i64 0, .int .i64 0, .int .i64 0, .int .i64 0, .int .u32 0, .int .u32 0, .bool false, .bool false] : Array Value)[i]? := by intro i; simp [World.cell?, HA3.out.mm]
  have mF : ∀ i, w3.frozen? ⟨w.heap.size + 1 + 1 + 1, i, none⟩ = false := by intro i; simp [World.frozen?, HA3.out.mm]
  have dC : ∀ i, w3.cell? ⟨w.heap.size + 1, i, none⟩ = (#[.int .u32 sz, .int .u32 fl, .bool hs, .bool hf] : Array Value)[i]? := by intro i; simp [World.cell?, HA3.out.dd]
  have aC : ∀ i, w3.cell? ⟨w.heap.size, i, none⟩ = (#[.int .u8 t0, .int .u8 t1, .int .u8 t2, .int .u8 t3, .int .i64 st, .int .i64 bd, .int .i64 en] : Array Value)[i]? := by intro i; simp [World.cell?, HA3.out.aa]
  have zC : ∀ i, w3.cell? ⟨w.heap.size + 1 + 1, i, none⟩ = (#[.bool false, .bool false, .int .i64 0, .int .i64 0, .int .i64 0, .int .i64 0, .int .i64 0, .int .i64 0, .int .i64 0, .int .u32 0, .int .u32 0, .bool false, .bool false] : Array Value)[i]? := by intro i; simp [World.cell?, HA3.out.zz]
  have zF : ∀ i, w3.frozen? ⟨w.heap.size + 1 + 1, i, none⟩ = false := by intro i; simp [World.frozen?, HA3.out.zz]
  go_upto_if 61 with fail
  have HA4 : Hid (MAt w (w3.setCell ⟨w.heap.size + 1 + 1 + 1, 3, none⟩ (.int .i64 next)) #[.int .u8 t0, .int .u8 t1, .int .u8 t2, .int .u8 t3, .int .i64 st, .int .i64 bd, .int .i64 en] #[.int .u32 sz, .int .u32 fl, .bool hs, .bool hf] #[.bool false, .bool false, .int .i64 0, .int .i64 next, .int .i64 0, .int .i64 0, .int .i64 0, .int .i64 0, .int .i64 0, .int .u32 0, .int .u32 0, .bool false, .bool false]) := HA3.out.put 3 (.int .i64 next)
  clear HA3 mC mF dC aC zC zF
  generalize w3.setCell ⟨w.heap.size + 1 + 1 + 1, 3, none⟩ (.int .i64 next) = w4 at HA4 ⊢
  have mC : ∀ i, w4.cell? ⟨w.heap.size + 1 + 1 + 1, i, none⟩ = (#[.bool false, .bool false, .int .i64 0, .int .i64 next, .int .i64 0, .int .i64 0, .int .i64 0, .int .i64 0, .int .i64 0, .int .u32 0, .int .u32 0, .bool false, .bool false] : Array Value)[i]? := by intro i; simp [World.cell?, HA4.out.mm]
  have mF : ∀ i, w4.frozen? ⟨w.heap.size + 1 + 1 + 1, i, none⟩ = false := by intro i; simp [World.frozen?, HA4.out.mm]
  have dC : ∀ i, w4.cell? ⟨w.heap.size + 1, i, none⟩ = (#[.int .u32 sz, .int .u32 fl, .bool hs, .bool hf] : Array Value)[i]? := by intro i; simp [World.cell?, HA4.out.dd]
  have aC : ∀ i, w4.cell? ⟨w.heap.size, i, none⟩ = (#[.int .u8 t0, .int .u8 t1, .int .u8 t2, .int .u8 t3, .int .i64 st, .int .i64 bd, .int .i64 en] : Array Value)[i]? := by intro i; simp [World.cell?, HA4.out.aa]
  have zC : ∀ i, w4.cell? ⟨w.heap.size + 1 + 1, i, none⟩ = (#[.bool false, .bool false, .int .i64 0, .int .i64 0, .int .i64 0, .int .i64 0, .int .i64 0, .int .i64 0, .int .i64 0, .int .u32 0, .int .u32 0, .bool false, .bool false] : Array Value)[i]? := by intro i; simp [World.cell?, HA4.out.zz]
  have zF : ∀ i, w4.frozen? ⟨w.heap.size + 1 + 1, i, none⟩ = false := by intro i; simp [World.frozen?, HA4.out.zz]
  go_cut [] (fun wx => Hid (MAt w wx #[.int .u8 t0, .int .u8 t1, .int .u8 t2, .int .u8 t3, .int .i64 st, .int .i64 bd, .int .i64 en] #[.int .u32 sz, .int .u32 fl, .bool hs, .bool hf] #[.bool false, .bool false, .int .i64 0, .int .i64 a, .int .i64 0, .int .i64 0, .int .i64 0, .int .i64 0, .int .i64 0, .int .u32 0, .int .u32 0, .bool false, .bool false]))
  case first =>
    cases c1 : (bits .and .u32 f 1 != 0)
    · have HX : Hid (a = next) := by show _ = _; rw [EA.out]; unfold hasBit; rw [c1]; rfl
      go_wp2
      go_meet
      rw [HX.out]
      exact HA4
    · have HX : Hid (a = base + wrap32 x8) := by show _ = _; rw [EA.out]; unfold hasBit; rw [c1]; rfl
      have hb : 1 ≤ bitI f 1 := by unfold bitI hasBit; rw [c1]; decide
      go_wp2_with fail
      refine (be32_at F len (bd + 4) (en - bd - 4) (cap - bd - 4) B 4 w4 x8 E8.out (HR.out.below HA4.out.below hFlt) HB.out h3 (by omega) (by omega)).mono ?_
      rintro e w5 ⟨rfl, n3, hw5⟩
      have HA5 : Hid (MAt w w5 #[.int .u8 t0, .int .u8 t1, .int .u8 t2, .int .u8 t3, .int .i64 st, .int .i64 bd, .int .i64 en] #[.int .u32 sz, .int .u32 fl, .bool hs, .bool hf] #[.bool false, .bool false, .int .i64 0, .int .i64 next, .int .i64 0, .int .i64 0, .int .i64 0, .int .i64 0, .int .i64 0, .int .u32 0, .int .u32 0, .bool false, .bool false]) := HA4.out.step (by rw [hw5]; exact below_drewN (Below.refl _ _) _)
      clear hw5 HA4 mC mF dC aC zC zF
      have mC : ∀ i, w5.cell? ⟨w.heap.size + 1 + 1 + 1, i, none⟩ = (#[.bool false, .bool false, .int .i64 0, .int .i64 next, .int .i64 0, .int .i64 0, .int .i64 0, .int .i64 0, .int .i64 0, .int .u32 0, .int .u32 0, .bool false, .bool false] : Array Value)[i]? := by intro i; simp [World.cell?, HA5.out.mm]
      have mF : ∀ i, w5.frozen? ⟨w.heap.size + 1 + 1 + 1, i, none⟩ = false := by intro i; simp [World.frozen?, HA5.out.mm]
      have dC : ∀ i, w5.cell? ⟨w.heap.size + 1, i, none⟩ = (#[.int .u32 sz, .int .u32 fl, .bool hs, .bool hf] : Array Value)[i]? := by intro i; simp [World.cell?, HA5.out.dd]
      have aC : ∀ i, w5.cell? ⟨w.heap.size, i, none⟩ = (#[.int .u8 t0, .int .u8 t1, .int .u8 t2, .int .u8 t3, .int .i64 st, .int .i64 bd, .int .i64 en] : Array Value)[i]? := by intro i; simp [World.cell?, HA5.out.aa]
      have zC : ∀ i, w5.cell? ⟨w.heap.size + 1 + 1, i, none⟩ = (#[.bool false, .bool false, .int .i64 0, .int .i64 0, .int .i64 0, .int .i64 0, .int .i64 0, .int .i64 0, .int .i64 0, .int .u32 0, .int .u32 0, .bool false, .bool false] : Array Value)[i]? := by intro i; simp [World.cell?, HA5.out.zz]
      have zF : ∀ i, w5.frozen? ⟨w.heap.size + 1 + 1, i, none⟩ = false := by intro i; simp [World.frozen?, HA5.out.zz]
      go_wp2
      go_meet
      rw [HX.out]
      exact HA5.out.put 3 _
  case rest =>
    have HA5 : Hid (MAt w wc #[.int .u8 t0, .int .u8 t1, .int .u8 t2, .int .u8 t3, .int .i64 st, .int .i64 bd, .int .i64 en] #[.int .u32 sz, .int .u32 fl, .bool hs, .bool hf] #[.bool false, .bool false, .int .i64 0, .int .i64 a, .int .i64 0, .int .i64 0, .int .i64 0, .int .i64 0, .int .i64 0, .int .u32 0, .int .u32 0, .bool false, .bool false]) := hcut
    rename_i KB hKB
    refine hKB _ _ ?_
    exact model_14 F len cap B far left t0 t1 t2 t3 st sz fl bd en hs hf base next w _ f cnt a wd sa fa x b hd _ _ _ _ _ _ _ _ _ _ _ _ _ _ _ _ _ _ _ _ _ _ _ _ _ _ _ _ _ _ _ _ _ _ _ _ _ _ _ _ _ _ _ _ _ _ _ _ _ _ _ _ _ _ _ _ _ _ _ _ _ _ _ _ _ _ _ _ _ _ _ _ _ _ _ _ _ _ _ _ _ _ _ _ _ _ _ _ _ _ _ _ _ _ _ _ _ _ _ _ _ _ _ _ _ _ _ _ _ _ _ _ _ _ _ _ _ _ _ _ _ _ _ _ _ _ _ _ _ _ _ _ _ _ _ _ _ _ _ _ _ _ _ _ _ _ _ _ _ _ _ _ _ _ _ _ _ _ _ _ _ _ _ _ _ _ _ _ _ _ _ _ _ _ _ _ _ _ _ _ _ _ _ _ _ _ _ _ _ _ _ _ _ _ _ _ _ _ _ _ _ _ _ _ _ _ _ _ _ _ HR.out HB.out h2 h3 hl1 hsz0 hsz1 bc.1 bb1 bb4 bc.2 hl0 h1 hq HN.out.1 HN.out.2.1 HN.out.2.2.1 HN.out.2.2.2.1 HS.out.2.2.2.2.2.2 HN.out.2.2.2.2.1 HN.out.2.2.2.2.2 HS.out.1 HS.out.2.1 HS.out.2.2.1 HS.out.2.2.2.1 HS.out.2.2.2.2.1 HS.out.2.2.2.2.2.1 b256 b512 b1024 b2048 HM.out HA5.out
end Go.Proofs.Qxb6613648aFmt

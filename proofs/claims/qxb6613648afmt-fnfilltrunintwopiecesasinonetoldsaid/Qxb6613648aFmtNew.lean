/-
  The reader, the track, the walker: made anew; what they tell.
-/
import Derived.Test.Qxb6613648aFmtRApp
namespace Go.Proofs.Qxb6613648aFmt
open Go.RowKit
set_option linter.unusedVariables false
set_option linter.unusedSimpArgs false
attribute [local go_sem] setCell_drewN alloc_drewN

theorem newReader_any (P len : Nat) (w : World) : Calls Tryf.prog 47 #[.slice (some ⟨P, 0, none⟩) len len] w fun e w' => e = .returned (.pointer (some ⟨w.heap.size, 0, none⟩)) ∧ w' = w.alloc (.cells #[.slice (some ⟨P, 0, none⟩) len len, .int .i64 0, .int .i64 (-1)] 141) := by
  go_enter Tryf.func47, Tryf.ntmps47
  go_wp2
  go_ret
  exact ⟨rfl, rfl⟩

theorem info119 : (Tryf.prog.info? 119).map (fun i => (i.zero, i.size, i.bytes)) = some (some (.agg #[.int .u32 0, .string ⟨#[]⟩, .slice none 0 0, .pointer none]), 4, 56) := by kernel_rfl
theorem mk_tracks (w : World) : (Instr.makeSlice 93 (.int .i64 0) (.int .i64 0)).run Tryf.prog w = .ok (.slice (some ⟨w.heap.size, 0, none⟩) 0 0) (w.alloc (.cells #[] 119)) := by
  obtain ⟨i0, hi, hz0, hz1, hz2⟩ := info_parts info119
  have := run_make (P := Tryf.prog) w 93 119 i0 (.agg #[.int .u32 0, .string ⟨#[]⟩, .slice none 0 0, .pointer none]) Tryf.underlying93 hi hz0 .i64 .i64 0 0 (by omega) (Int.le_refl _) (by rw [hz2]; omega) (by omega)
  have e : ∀ z, madeCells z (Int.toNat 0 * 4) = #[] := fun z => Array.eq_empty_of_size_eq_zero (by rw [size_madeCells]; rfl)
  rw [hz1, e] at this
  exact this

/-- A reader that is new: its blocks. -/
structure RD (w : World) (fb mb rb P len : Nat) (far left : Int) (B : Nat → Int) : Prop where
  fbh : ∃ Fc, w.heap[fb]? = some (.cells Fc 107 (0, 0)) ∧ Fc[0]? = some (.pointer (some ⟨mb, 0, none⟩))
  mbh : ∃ mv, w.heap[mb]? = some (.cells #[.iface 90 (.pointer (some ⟨rb, 0, none⟩)), .int .i64 len, .int .i64 far, .pointer mv, .pointer none, .int .u64 left, .string ⟨#[]⟩, .int .i64 0] 103 (0, 0))
  rbh : w.heap[rb]? = some (.cells #[.slice (some ⟨P, 0, none⟩) len len, .int .i64 0, .int .i64 (-1)] 141 (0, 0))
  row : Row w P len B

theorem RD.step {w w' : World} {fb mb rb P len : Nat} {far left : Int} {B : Nat → Int} (h : RD w fb mb rb P len far left B) (hb : Below w.heap.size w w') : RD w' fb mb rb P len far left B := by
  obtain ⟨Fc, f1, f2⟩ := h.fbh
  obtain ⟨mv, m1⟩ := h.mbh
  exact ⟨⟨Fc, (hb.block _ (lt_of_block f1)).trans f1, f2⟩, ⟨mv, (hb.block _ (lt_of_block m1)).trans m1⟩, (hb.block _ (lt_of_block h.rbh)).trans h.rbh, h.row.below hb h.row.lt⟩

def NewPost (w : World) (P len : Nat) (far left : Int) (B : Nat → Int) (e : Ending) (w' : World) : Prop :=
  ∃ fb mb rb, e = .returned (.pointer (some ⟨fb, 0, none⟩)) ∧ RD w' fb mb rb P len far left B ∧ w.heap.size ≤ mb ∧ Below w.heap.size w w'

theorem heap_drew (w : World) : w.drew.heap = w.heap := rfl
theorem size_alloc (w : World) (o : Obj) : (w.alloc o).heap.size = w.heap.size + 1 := by simp
theorem alloc_at (w : World) (o : Obj) (n : Nat) (h : w.heap.size = n) : (w.alloc o).heap[n]? = some o := by subst h; show (w.heap.push o)[w.heap.size]? = _; simp
theorem alloc_lt (w : World) (o : Obj) (n : Nat) (x : Obj) (h : w.heap[n]? = some x) : (w.alloc o).heap[n]? = some x := (Below.heap_alloc _ _ _ (lt_of_block h)).trans h

set_option maxRecDepth 100000 in
set_option maxHeartbeats 1000000 in
theorem newFragment_any (P len : Nat) (far left : Int) (B : Nat → Int) (w : World) (hrow : Row w P len B) (hlen : len ≤ 1048576) :
    Calls Tryf.prog 13 #[.slice (some ⟨P, 0, none⟩) len len, .int .i64 far, .int .u64 left, .bool false, .map none, .int .i64 0] w fun e w' => NewPost w P len far left B e w' := by
  have hmk := mk_tracks
  have hmm := @run_makeMap Tryf.prog
  have HR : Hid (Row w P len B) := hrow
  clear hrow
  go_enter Tryf.func13, Tryf.ntmps13
  go_upto_region 1 with fail
  go_region_with (go_at_call 47; refine (newReader_any P len _).mono ?_; rintro e w3 ⟨rfl, rfl⟩)
  · go_wp2
    go_ret
    refine ⟨_, w.heap.size + 1 + 1 + 1, w.heap.size, rfl, ⟨⟨#[.pointer (some ⟨w.heap.size + 1 + 1 + 1, 0, none⟩), .bool false, .map none, .map (some (w.heap.size + 1 + 1 + 1 + 1)), .slice none 0 0], ?f, rfl⟩, ⟨some ⟨w.heap.size + 1 + 1, 0, none⟩, ?m⟩, ?r, ?row⟩, by omega, ?bl⟩
    case f =>
      rw [heap_drew]
      exact alloc_at _ _ _ (by simp)
    case m =>
      rw [heap_drew]
      refine alloc_lt _ _ _ _ (alloc_lt _ _ _ _ ?_)
      exact alloc_at _ _ _ (by simp)
    case r =>
      rw [heap_drew]
      refine alloc_lt _ _ _ _ (alloc_lt _ _ _ _ (alloc_lt _ _ _ _ (alloc_lt _ _ _ _ (alloc_lt _ _ _ _ (?_)))))
      exact alloc_at _ _ _ rfl
    case row =>
      refine HR.out.below (N := w.heap.size) ?_ HR.out.lt
      exact ((((((Below.refl _ _).alloc (Nat.le_refl _) _).alloc (by simp) _).alloc (by simp; omega) _).alloc (by simp; omega) _).alloc (by simp; omega) _).alloc (by simp; omega) _ |>.drew
    case bl => exact ((((((Below.refl _ _).alloc (Nat.le_refl _) _).alloc (by simp) _).alloc (by simp; omega) _).alloc (by simp; omega) _).alloc (by simp; omega) _).alloc (by simp; omega) _ |>.drew
  · go_wp2
    go_ret
    refine ⟨_, w.heap.size + 1 + 1 + 1, w.heap.size + 1, rfl, ⟨⟨#[.pointer (some ⟨w.heap.size + 1 + 1 + 1, 0, none⟩), .bool false, .map none, .map (some (w.heap.size + 1 + 1 + 1 + 1)), .slice none 0 0], ?f, rfl⟩, ⟨some ⟨w.heap.size + 1 + 1, 0, none⟩, ?m⟩, ?r, ?row⟩, by omega, ?bl⟩
    case f =>
      rw [heap_drew]
      exact alloc_at _ _ _ (by simp)
    case m =>
      rw [heap_drew]
      refine alloc_lt _ _ _ _ (alloc_lt _ _ _ _ ?_)
      exact alloc_at _ _ _ (by simp)
    case r =>
      rw [heap_drew]
      refine alloc_lt _ _ _ _ (alloc_lt _ _ _ _ (alloc_lt _ _ _ _ (alloc_lt _ _ _ _ (?_))))
      exact alloc_at _ _ _ (by simp)
    case row =>
      refine HR.out.below (N := w.heap.size) ?_ HR.out.lt
      exact ((((((Below.refl _ _).alloc (Nat.le_refl _) _).alloc (by simp) _).alloc (by simp; omega) _).alloc (by simp; omega) _).alloc (by simp; omega) _).alloc (by simp; omega) _ |>.drew
    case bl => exact ((((((Below.refl _ _).alloc (Nat.le_refl _) _).alloc (by simp) _).alloc (by simp; omega) _).alloc (by simp; omega) _).alloc (by simp; omega) _).alloc (by simp; omega) _ |>.drew
  · go_wp2
    go_ret
    refine ⟨_, w.heap.size + 1 + 1 + 1, w.heap.size + 1 + 1, rfl, ⟨⟨#[.pointer (some ⟨w.heap.size + 1 + 1 + 1, 0, none⟩), .bool false, .map none, .map (some (w.heap.size + 1 + 1 + 1 + 1)), .slice none 0 0], ?f, rfl⟩, ⟨some ⟨w.heap.size + 1, 0, none⟩, ?m⟩, ?r, ?row⟩, by omega, ?bl⟩
    case f =>
      rw [heap_drew]
      exact alloc_at _ _ _ (by simp)
    case m =>
      rw [heap_drew]
      refine alloc_lt _ _ _ _ (alloc_lt _ _ _ _ ?_)
      exact alloc_at _ _ _ (by simp)
    case r =>
      rw [heap_drew]
      refine alloc_lt _ _ _ _ (alloc_lt _ _ _ _ (alloc_lt _ _ _ _ (?_)))
      exact alloc_at _ _ _ (by simp)
    case row =>
      refine HR.out.below (N := w.heap.size) ?_ HR.out.lt
      exact ((((((Below.refl _ _).alloc (Nat.le_refl _) _).alloc (by simp) _).alloc (by simp; omega) _).alloc (by simp; omega) _).alloc (by simp; omega) _).alloc (by simp; omega) _ |>.drew
    case bl => exact ((((((Below.refl _ _).alloc (Nat.le_refl _) _).alloc (by simp) _).alloc (by simp; omega) _).alloc (by simp; omega) _).alloc (by simp; omega) _).alloc (by simp; omega) _ |>.drew
set_option maxRecDepth 100000 in
set_option maxHeartbeats 1000000 in
theorem samples_any (mb rb : Nat) (far : Int) (w : World) (h0 : w.cell? ⟨mb, 0, none⟩ = some (.iface 90 (.pointer (some ⟨rb, 0, none⟩)))) (h2 : w.cell? ⟨mb, 2, none⟩ = some (.int .i64 far)) (h4 : w.cell? ⟨mb, 4, none⟩ = some (.pointer none)) :
    Calls Tryf.prog 49 #[.pointer (some ⟨mb, 0, none⟩), .pointer none] w fun e w' => e = .returned (.agg #[.slice none 0 0, .pointer (some ⟨w.heap.size + 1, 0, none⟩)]) ∧ w'.heap[w.heap.size + 1]? = some (.cells #[.iface 90 (.pointer (some ⟨rb, 0, none⟩)), .int .i64 far, .pointer none, .pointer none, .slice none 0 0, .int .i64 0, .slice none 0 0, .slice none 0 0, .slice none 0 0] 128 (0, 0)) ∧ Below w.heap.size w w' := by
  have lm := lt_of_cell h0
  go_enter Tryf.func49, Tryf.ntmps49
  go_upto_region 1 with fail
  go_region
  all_goals
    go_wp2
    refine bodyPost_ret (v := .agg #[.slice none 0 0, .pointer (some ⟨w.heap.size + 1, 0, none⟩)]) (by simp [results, Tryf.results49, go_sem]) rfl ⟨rfl, ?_, ?_⟩
    · show (World.heap (World.alloc _ _))[_]? = _
      exact alloc_at _ _ _ (by simp)
    · exact (((Below.refl _ _).alloc (Nat.le_refl _) _).alloc (by simp) _).drew

set_option maxRecDepth 100000 in
set_option maxHeartbeats 1000000 in
theorem newTrack_any (fb mb rb P len : Nat) (far left : Int) (B : Nat → Int) (w : World) (h : RD w fb mb rb P len far left B) :
    Calls Tryf.prog 25 #[.pointer (some ⟨fb, 0, none⟩), .int .u32 1] w fun e w' => ∃ tb sb, e = .returned (.pointer (some ⟨tb, 0, none⟩)) ∧ RT w' fb mb rb tb sb P len far left B (.slice none 0 0) 0 ∧ w.heap.size ≤ sb ∧ Below w.heap.size w w' := by
  obtain ⟨Fc, f1, f2⟩ := h.fbh
  obtain ⟨mv, m1⟩ := h.mbh
  have HR : Hid (RD w fb mb rb P len far left B) := h
  have c0 : w.cell? ⟨fb, 0, none⟩ = some (.pointer (some ⟨mb, 0, none⟩)) := by simp only [World.cell?, f1]; exact f2
  have d0 : w.cell? ⟨mb, 0, none⟩ = some (.iface 90 (.pointer (some ⟨rb, 0, none⟩))) := by simp [World.cell?, m1]
  have d2 : w.cell? ⟨mb, 2, none⟩ = some (.int .i64 far) := by simp [World.cell?, m1]
  have d4 : w.cell? ⟨mb, 4, none⟩ = some (.pointer none) := by simp [World.cell?, m1]
  clear h f1 f2 m1
  go_enter Tryf.func25, Tryf.ntmps25
  go_wp2_with fail
  refine (samples_any mb rb far w d0 d2 d4).mono ?_
  rintro e w2 ⟨rfl, g1, g2⟩
  have H2 : Hid (w2.heap[w.heap.size + 1]? = some (.cells #[.iface 90 (.pointer (some ⟨rb, 0, none⟩)), .int .i64 far, .pointer none, .pointer none, .slice none 0 0, .int .i64 0, .slice none 0 0, .slice none 0 0, .slice none 0 0] 128 (0, 0)) ∧ Below w.heap.size w w2) := ⟨g1, g2⟩
  clear g1 g2
  go_wp2
  go_ret
  obtain ⟨g1, g2⟩ := H2.out
  have hb := g2.alloc g2.size (.cells #[.int .u32 1, .string ⟨#[]⟩, .slice none 0 0, .pointer (some ⟨w.heap.size + 1, 0, none⟩)] 119)
  have hR := HR.out.step hb
  exact ⟨_, _, rfl, ⟨hR.fbh, hR.mbh, hR.rbh, alloc_at _ _ _ rfl, alloc_lt _ _ _ _ g1, hR.row⟩, by omega, hb⟩

set_option maxRecDepth 100000 in
set_option maxHeartbeats 1000000 in
theorem trunCount_any (tb sb n : Nat) (a : Option Addr) (c : Nat) (w : World) (h3 : w.cell? ⟨tb, 3, none⟩ = some (.pointer (some ⟨sb, 0, none⟩))) (h4 : w.cell? ⟨sb, 4, none⟩ = some (.slice a n c)) :
    Calls Tryf.prog 28 #[.pointer (some ⟨tb, 0, none⟩)] w fun e w' => e = .returned (.int .i64 n) ∧ w' = w := by
  go_enter Tryf.func28, Tryf.ntmps28
  go_wp2
  go_ret
  exact ⟨rfl, rfl⟩

set_option maxRecDepth 100000 in
set_option maxHeartbeats 1000000 in
theorem state_any (wb : Nat) (k en rw a : Int) (w : World) (h12 : w.cell? ⟨wb, 12, none⟩ = some (.int .i64 k)) (h13 : w.cell? ⟨wb, 13, none⟩ = some (.int .i64 en)) (h1 : w.cell? ⟨wb, 1, none⟩ = some (.int .i64 rw)) (h14 : w.cell? ⟨wb, 14, none⟩ = some (.int .i64 a)) :
    Calls Tryf.prog 43 #[.pointer (some ⟨wb, 0, none⟩)] w fun e w' => e = .returned (.tuple #[.int .i64 k, .int .i64 en, .int .i64 rw, .int .i64 a]) ∧ ∃ n, w' = w.drewN n := by
  go_enter Tryf.func43, Tryf.ntmps43
  go_upto_region 1 with fail
  go_region
  go_wp2
  refine bodyPost_ret (v := .tuple #[.int .i64 k, .int .i64 en, .int .i64 rw, .int .i64 a]) (by simp [results, Tryf.results43, go_sem]) rfl ⟨rfl, _, rfl⟩

set_option maxRecDepth 100000 in
set_option maxHeartbeats 1000000 in
theorem newWalker_any (tb sb : Nat) (w : World) (h3 : w.cell? ⟨tb, 3, none⟩ = some (.pointer (some ⟨sb, 0, none⟩))) :
    Calls Tryf.prog 37 #[.pointer (some ⟨tb, 0, none⟩)] w fun e w' => e = .returned (.pointer (some ⟨w.heap.size, 0, none⟩)) ∧ w' = w.alloc (.cells #[.pointer (some ⟨sb, 0, none⟩), .int .i64 0, .int .i64 0, .int .u64 0, .int .u32 0, .int .u32 0, .int .u32 0, .int .u64 0, .int .u32 0, .int .u32 0, .int .i64 0, .int .u64 0, .int .i64 0, .int .i64 0, .int .i64 0, .slice none 0 0, .int .i64 0, .int .i64 0, .int .i64 0, .slice none 0 0, .int .i64 0, .int .i64 0, .int .i64 0, .slice none 0 0, .int .i64 0, .int .i64 0, .int .i64 0, .slice none 0 0, .int .i64 0, .int .i64 0, .int .i64 0, .slice none 0 0, .int .i64 0, .int .i64 0, .int .i64 0] 138) := by
  go_enter Tryf.func37, Tryf.ntmps37
  go_wp2
  go_ret
  exact ⟨rfl, rfl⟩
end Go.Proofs.Qxb6613648aFmt

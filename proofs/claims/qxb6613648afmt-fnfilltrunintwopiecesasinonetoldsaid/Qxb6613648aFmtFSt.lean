/-
  fillTrun: what holds while it runs.
-/
import Derived.Test.Qxb6613648aFmtCRead
namespace Go.Proofs.Qxb6613648aFmt
open Go.RowKit
set_option linter.unusedVariables false
set_option linter.unusedSimpArgs false

/-- A row of samples: offset, size, sync. -/
def SRow (w : World) (D L : Nat) (O Z : Nat → Int) (Y : Nat → Bool) : Prop :=
  ∃ cur : Array Value, w.heap[D]? = some (.cells cur 78 (0, 0)) ∧ cur.size = L * 3 ∧ ∀ i, i < L → cur[i * 3]? = some (.int .i64 (O i)) ∧ cur[i * 3 + 1]? = some (.int .i64 (Z i)) ∧ cur[i * 3 + 2]? = some (.bool (Y i))

/-- What the walker's cursor holds of the run's entries. -/
def Curs (w : World) (wb P N v e0 cn ent : Nat) (B : Nat → Int) : Prop :=
  (w.cell? ⟨wb, 31, none⟩ = some (.slice none 0 0) ∧ w.cell? ⟨wb, 33, none⟩ = some (.int .i64 0) ∧ w.cell? ⟨wb, 34, none⟩ = some (.int .i64 0))
  ∨ ∃ (Q c f g l : Nat) (Z : Nat → Int), w.cell? ⟨wb, 31, none⟩ = some (.slice (some ⟨Q, 0, none⟩) l c) ∧ w.cell? ⟨wb, 32, none⟩ = some (.int .i64 e0) ∧ w.cell? ⟨wb, 33, none⟩ = some (.int .i64 f) ∧ w.cell? ⟨wb, 34, none⟩ = some (.int .i64 g) ∧ l = g * v ∧ l ≤ c ∧ c ≤ 4096 ∧ Row w Q c Z ∧ Q ≠ P ∧ N ≤ Q ∧ f ≤ ent ∧ (∀ j, j < l → Z j = B (e0 + f * v + j)) ∧ min (4096 / v) (cn - f) * v ≤ c

/-- The state of a fill. -/
structure FW (fb mb rb tb sb P len qb cp cn e0 v N wb D L : Nat) (far left a sa fa sz x fl : Int) (hs b hf : Bool) (B : Nat → Int) (w0 wS : World) (w : World) (ent raw : Nat) (at' : Int) (O Z : Nat → Int) (Y : Nat → Bool) : Prop where
  rt : RT w fb mb rb tb sb P len far left B (.slice (some ⟨qb, 0, none⟩) 1 cp) cn
  tr : TrunAt w qb #[.int .i64 a, .int .i64 e0, .int .i64 cn, .int .i64 v, .int .i64 sa, .int .i64 fa, .int .u32 sz, .int .u32 x, .bool hs, .bool b, .int .u32 sz, .int .u32 fl, .bool hs, .bool hf]
  below : Below N w0 w
  keep : ∀ (k : Nat) (c : Array Value) (t : TypeId) (f : Nat × Nat), wS.heap[k]? = some (.cells c t f) → t ≠ 5 → t ≠ 109 → t ≠ 153 → k ≠ wb → k ≠ D → w.heap[k]? = some (.cells c t f)
  wk : ∃ cur, w.heap[wb]? = some (.cells cur 138 (0, 0)) ∧ cur.size = 35
  c0 : w.cell? ⟨wb, 0, none⟩ = some (.pointer (some ⟨sb, 0, none⟩))
  c1 : w.cell? ⟨wb, 1, none⟩ = some (.int .i64 raw)
  c12 : w.cell? ⟨wb, 12, none⟩ = some (.int .i64 0)
  c13 : w.cell? ⟨wb, 13, none⟩ = some (.int .i64 ent)
  c14 : w.cell? ⟨wb, 14, none⟩ = some (.int .i64 at')
  cur : Curs w wb P N v e0 cn ent B
  dst : SRow w D L O Z Y

theorem TrunAt.blk {w w' : World} {qb : Nat} {T : Array Value} (h : TrunAt w qb T) (hs : ∀ c f, w.heap[qb]? = some (.cells c 130 f) → w'.heap[qb]? = some (.cells c 130 f)) : TrunAt w' qb T := by
  obtain ⟨cur, h1, h2⟩ := h
  exact ⟨cur, hs _ _ h1, h2⟩

theorem RT.blk {w w' : World} {fb mb rb tb sb P len : Nat} {far left : Int} {B : Nat → Int} {truns : Value} {cnt : Int} (h : RT w fb mb rb tb sb P len far left B truns cnt) (hs : ∀ (k : Nat) (c : Array Value) (t : TypeId) (f : Nat × Nat), w.heap[k]? = some (.cells c t f) → t = 107 ∨ t = 103 ∨ t = 141 ∨ t = 119 ∨ t = 128 ∨ (t = 5 ∧ k = P) → w'.heap[k]? = some (.cells c t f)) : RT w' fb mb rb tb sb P len far left B truns cnt := by
  obtain ⟨Fc, f1, f2⟩ := h.fbh
  obtain ⟨mv, m1⟩ := h.mbh
  obtain ⟨cur, r1, r2⟩ := h.row
  exact ⟨⟨Fc, hs _ _ _ _ f1 (by simp), f2⟩, ⟨mv, hs _ _ _ _ m1 (by simp)⟩, hs _ _ _ _ h.rbh (by simp), hs _ _ _ _ h.tbh (by simp), hs _ _ _ _ h.sbh (by simp), ⟨cur, hs _ _ _ _ r1 (by simp), r2⟩⟩

theorem rt_ty {t : TypeId} {p : Prop} (h : t = 107 ∨ t = 103 ∨ t = 141 ∨ t = 119 ∨ t = 128 ∨ (t = 5 ∧ p)) : t ≠ 109 ∧ t ≠ 153 ∧ t ≠ 138 ∧ t ≠ 78 := by
  rcases h with h | h | h | h | h | ⟨h, _⟩ <;> subst h <;> decide

/-- Only blocks of the call's own have changed. -/
theorem FW.own {fb mb rb tb sb P len qb cp cn e0 v N wb D L : Nat} {far left a sa fa sz x fl : Int} {hs b hf : Bool} {B : Nat → Int} {w0 wS : World} {w w' : World} {ent raw : Nat} {at' : Int} {O Z : Nat → Int} {Y : Nat → Bool} (h : FW fb mb rb tb sb P len qb cp cn e0 v N wb D L far left a sa fa sz x fl hs b hf B w0 wS w ent raw at' O Z Y) (hb : Below N w w') (hsm : ∀ (k : Nat) (c : Array Value) (t : TypeId) (f : Nat × Nat), w.heap[k]? = some (.cells c t f) → t ≠ 109 → t ≠ 153 → w'.heap[k]? = some (.cells c t f)) : FW fb mb rb tb sb P len qb cp cn e0 v N wb D L far left a sa fa sz x fl hs b hf B w0 wS w' ent raw at' O Z Y := by
  obtain ⟨cur, k1, k2⟩ := h.wk
  obtain ⟨dc, d1, d2⟩ := h.dst
  have kw : w'.heap[wb]? = w.heap[wb]? := (hsm _ _ _ _ k1 (by decide) (by decide)).trans k1.symm
  have cw : ∀ j, w'.cell? ⟨wb, j, none⟩ = w.cell? ⟨wb, j, none⟩ := fun j => World.cell?_of_block kw
  refine ⟨h.rt.blk (fun k c t f h1 h2 => hsm k c t f h1 (rt_ty h2).1 (rt_ty h2).2.1), h.tr.blk (fun c f h1 => hsm _ _ _ _ h1 (by decide) (by decide)), h.below.trans hb, fun k c t f h1 h2 h3 h4 h5 h6 => hsm _ _ _ _ (h.keep k c t f h1 h2 h3 h4 h5 h6) h3 h4, ⟨cur, kw.trans k1, k2⟩, (cw 0).trans h.c0, (cw 1).trans h.c1, (cw 12).trans h.c12, (cw 13).trans h.c13, (cw 14).trans h.c14, ?_, ⟨dc, hsm _ _ _ _ d1 (by decide) (by decide), d2⟩⟩
  rcases h.cur with ⟨e1, e2, e3⟩ | ⟨Q, c, f, g, l, Z', e1, e2, e3, e4, e5, e6, e7, e8, e9⟩
  · exact .inl ⟨(cw _).trans e1, (cw _).trans e2, (cw _).trans e3⟩
  · refine .inr ⟨Q, c, f, g, l, Z', (cw _).trans e1, (cw _).trans e2, (cw _).trans e3, (cw _).trans e4, e5, e6, e7, ?_, e9⟩
    obtain ⟨cq, q1, q2⟩ := e8
    exact ⟨cq, hsm _ _ _ _ q1 (by decide) (by decide), q2⟩

/-- A cell of the walker is set. -/
theorem FW.put {fb mb rb tb sb P len qb cp cn e0 v N wb D L : Nat} {far left a sa fa sz x fl : Int} {hs b hf : Bool} {B : Nat → Int} {w0 wS : World} {w : World} {ent raw ent' raw' : Nat} {at' at2 : Int} {O Z : Nat → Int} {Y : Nat → Bool} (h : FW fb mb rb tb sb P len qb cp cn e0 v N wb D L far left a sa fa sz x fl hs b hf B w0 wS w ent raw at' O Z Y) (hN : N ≤ wb) (i : Nat) (u : Value) (hi : i < 31) (hi0 : i ≠ 0) (hi12 : i ≠ 12)
    (hl : ent ≤ ent') (h1 : if i = 1 then u = .int .i64 raw' else raw' = raw) (h13 : if i = 13 then u = .int .i64 ent' else ent' = ent) (h14 : if i = 14 then u = .int .i64 at2 else at2 = at') :
    FW fb mb rb tb sb P len qb cp cn e0 v N wb D L far left a sa fa sz x fl hs b hf B w0 wS (w.setCell ⟨wb, i, none⟩ u) ent' raw' at2 O Z Y := by
  obtain ⟨cur, k1, k2⟩ := h.wk
  obtain ⟨dc, d1, d2⟩ := h.dst
  have sm : ∀ (k : Nat) (c : Array Value) (t : TypeId) (f : Nat × Nat), w.heap[k]? = some (.cells c t f) → t ≠ 138 → (w.setCell ⟨wb, i, none⟩ u).heap[k]? = some (.cells c t f) := fun k c t f hk ht => by
    refine (Below.heap_setCell _ _ _ _ ?_).trans hk
    rintro rfl
    rw [k1] at hk
    simp only [Option.some.injEq, Obj.cells.injEq] at hk
    exact ht hk.2.1.symm
  have far' : ∀ j, i ≠ j → (w.setCell ⟨wb, i, none⟩ u).cell? ⟨wb, j, none⟩ = w.cell? ⟨wb, j, none⟩ := fun j hj => cell_far_off hj
  have here : (w.setCell ⟨wb, i, none⟩ u).cell? ⟨wb, i, none⟩ = some u := cell_here ⟨cur, k1, k2⟩ (by omega)
  refine ⟨h.rt.blk (fun k c t f h1 h2 => sm k c t f h1 (rt_ty h2).2.2.1), h.tr.blk (fun c f h1 => sm _ _ _ _ h1 (by decide)), h.below.setCell hN _, fun k c t f h1 h2 h3 h4 h5 h6 => (Below.heap_setCell _ _ _ _ h5).trans (h.keep k c t f h1 h2 h3 h4 h5 h6), blk_set wb i u ⟨cur, k1, k2⟩, (far' 0 hi0).trans h.c0, ?_, (far' 12 hi12).trans h.c12, ?_, ?_, ?_, ⟨dc, sm _ _ _ _ d1 (by decide), d2⟩⟩
  · by_cases e : i = 1
    · rw [if_pos e] at h1; rw [← h1]; subst e; exact here
    · rw [if_neg e] at h1; rw [h1]; exact (far' 1 e).trans h.c1
  · by_cases e : i = 13
    · rw [if_pos e] at h13; rw [← h13]; subst e; exact here
    · rw [if_neg e] at h13; rw [h13]; exact (far' 13 e).trans h.c13
  · by_cases e : i = 14
    · rw [if_pos e] at h14; rw [← h14]; subst e; exact here
    · rw [if_neg e] at h14; rw [h14]; exact (far' 14 e).trans h.c14
  · rcases h.cur with ⟨e1, e2, e3⟩ | ⟨Q, c, f, g, l, Z', e1, e2, e3, e4, e5, e6, e7, e8, e9, e10, e11, e12⟩
    · exact .inl ⟨(far' _ (by omega)).trans e1, (far' _ (by omega)).trans e2, (far' _ (by omega)).trans e3⟩
    · refine .inr ⟨Q, c, f, g, l, Z', (far' _ (by omega)).trans e1, (far' _ (by omega)).trans e2, (far' _ (by omega)).trans e3, (far' _ (by omega)).trans e4, e5, e6, e7, ?_, e9, e10, by omega, e12⟩
      obtain ⟨cq, q1, q2⟩ := e8
      exact ⟨cq, sm _ _ _ _ q1 (by decide), q2⟩

/-- A sample is laid into the row. -/
theorem FW.lay {fb mb rb tb sb P len qb cp cn e0 v N wb D L : Nat} {far left a sa fa sz x fl : Int} {hs b hf : Bool} {B : Nat → Int} {w0 wS : World} {w : World} {ent raw : Nat} {at' : Int} {O Z : Nat → Int} {Y : Nat → Bool} (h : FW fb mb rb tb sb P len qb cp cn e0 v N wb D L far left a sa fa sz x fl hs b hf B w0 wS w ent raw at' O Z Y) (hN : N ≤ D) (i : Nat) (hi : i < L) (o z : Int) (y : Bool) :
    FW fb mb rb tb sb P len qb cp cn e0 v N wb D L far left a sa fa sz x fl hs b hf B w0 wS (((w.setCell ⟨D, i * 3, none⟩ (.int .i64 o)).setCell ⟨D, i * 3 + 1, none⟩ (.int .i64 z)).setCell ⟨D, i * 3 + 2, none⟩ (.bool y)) ent raw at' (fun j => if j = i then o else O j) (fun j => if j = i then z else Z j) (fun j => if j = i then y else Y j) := by
  obtain ⟨cur, k1, k2⟩ := h.wk
  obtain ⟨dc, d1, d2, d3⟩ := h.dst
  have sm0 : ∀ k, k ≠ D → (((w.setCell ⟨D, i * 3, none⟩ (.int .i64 o)).setCell ⟨D, i * 3 + 1, none⟩ (.int .i64 z)).setCell ⟨D, i * 3 + 2, none⟩ (.bool y)).heap[k]? = w.heap[k]? := fun k hk => by
    rw [Below.heap_setCell _ _ _ _ hk, Below.heap_setCell _ _ _ _ hk, Below.heap_setCell _ _ _ _ hk]
  have sm : ∀ (k : Nat) (c : Array Value) (t : TypeId) (f : Nat × Nat), w.heap[k]? = some (.cells c t f) → t ≠ 78 → (((w.setCell ⟨D, i * 3, none⟩ (.int .i64 o)).setCell ⟨D, i * 3 + 1, none⟩ (.int .i64 z)).setCell ⟨D, i * 3 + 2, none⟩ (.bool y)).heap[k]? = some (.cells c t f) := fun k c t f hk ht => by
    refine (sm0 k ?_).trans hk
    rintro rfl
    rw [d1] at hk
    simp only [Option.some.injEq, Obj.cells.injEq] at hk
    exact ht hk.2.1.symm
  have kw := (sm _ _ _ _ k1 (by decide)).trans k1.symm
  have cw : ∀ j, (((w.setCell ⟨D, i * 3, none⟩ (.int .i64 o)).setCell ⟨D, i * 3 + 1, none⟩ (.int .i64 z)).setCell ⟨D, i * 3 + 2, none⟩ (.bool y)).cell? ⟨wb, j, none⟩ = w.cell? ⟨wb, j, none⟩ := fun j => World.cell?_of_block kw
  refine ⟨h.rt.blk (fun k c t f h1 h2 => sm k c t f h1 (rt_ty h2).2.2.2), h.tr.blk (fun c f h1 => sm _ _ _ _ h1 (by decide)), ((h.below.setCell hN _).setCell hN _).setCell hN _, fun k c t f h1 h2 h3 h4 h5 h6 => (sm0 k h6).trans (h.keep k c t f h1 h2 h3 h4 h5 h6), ⟨cur, kw.trans k1, k2⟩, (cw 0).trans h.c0, (cw 1).trans h.c1, (cw 12).trans h.c12, (cw 13).trans h.c13, (cw 14).trans h.c14, ?_, ?_⟩
  · rcases h.cur with ⟨e1, e2, e3⟩ | ⟨Q, c, f, g, l, Z', e1, e2, e3, e4, e5, e6, e7, e8, e9⟩
    · exact .inl ⟨(cw _).trans e1, (cw _).trans e2, (cw _).trans e3⟩
    · refine .inr ⟨Q, c, f, g, l, Z', (cw _).trans e1, (cw _).trans e2, (cw _).trans e3, (cw _).trans e4, e5, e6, e7, ?_, e9⟩
      obtain ⟨cq, q1, q2⟩ := e8
      exact ⟨cq, sm _ _ _ _ q1 (by decide), q2⟩
  · refine ⟨((dc.setIfInBounds (i * 3) (.int .i64 o)).setIfInBounds (i * 3 + 1) (.int .i64 z)).setIfInBounds (i * 3 + 2) (.bool y), ?_, by simpa using d2, ?_⟩
    · simp only [World.setCell, Array.getElem?_modify, d1]
      simp
    · intro j hj
      have hj3 := d3 j hj
      by_cases e : j = i
      · subst e
        have s0 : j * 3 < dc.size := by omega
        have s1 : j * 3 + 1 < dc.size := by omega
        have s2 : j * 3 + 2 < dc.size := by omega
        simp [Array.getElem?_setIfInBounds, s0, s1, s2]
      · have n0 : ¬ i * 3 = j * 3 := by omega
        have n1 : ¬ i * 3 + 1 = j * 3 := by omega
        have n2 : ¬ i * 3 + 2 = j * 3 := by omega
        have n3 : ¬ i * 3 = j * 3 + 1 := by omega
        have n4 : ¬ i * 3 + 1 = j * 3 + 1 := by omega
        have n5 : ¬ i * 3 + 2 = j * 3 + 1 := by omega
        have n6 : ¬ i * 3 = j * 3 + 2 := by omega
        have n7 : ¬ i * 3 + 1 = j * 3 + 2 := by omega
        have n8 : ¬ i * 3 + 2 = j * 3 + 2 := by omega
        simp only [Array.getElem?_setIfInBounds, n0, n1, n2, n3, n4, n5, n6, n7, n8, if_false, e]
        exact hj3

/-- A chunk is read. -/
theorem FW.read {fb mb rb tb sb P len qb cp cn e0 v N wb D L : Nat} {far left a sa fa sz x fl : Int} {hs b hf : Bool} {B : Nat → Int} {w0 wS : World} {w w' : World} {ent raw : Nat} {at' : Int} {O Z : Nat → Int} {Y : Nat → Bool} (h : FW fb mb rb tb sb P len qb cp cn e0 v N wb D L far left a sa fa sz x fl hs b hf B w0 wS w ent raw at' O Z Y) {Q c : Nat} {Z' : Nat → Int} (hN : N ≤ wb) (hQN : N ≤ Q) (hNw : N ≤ w.heap.size) (hQP : Q ≠ P) (hq : ∀ (c : Array Value) (t : TypeId) (f : Nat × Nat), w.heap[Q]? = some (.cells c t f) → t = 5)
    (hr : Rd w w' wb Q c e0 ent (min (4096 / v) (cn - ent)) (min (4096 / v) (cn - ent) * v) Z') (hZ : ∀ j, j < min (4096 / v) (cn - ent) * v → Z' j = B (e0 + ent * v + j)) (hc : c ≤ 4096) (hSc : min (4096 / v) (cn - ent) * v ≤ c) :
    FW fb mb rb tb sb P len qb cp cn e0 v N wb D L far left a sa fa sz x fl hs b hf B w0 wS w' ent raw at' O Z Y := by
  obtain ⟨cur, k1, k2⟩ := h.wk
  obtain ⟨dc, d1, d2⟩ := h.dst
  have sm : ∀ (k : Nat) (c : Array Value) (t : TypeId) (f : Nat × Nat), w.heap[k]? = some (.cells c t f) → t ≠ 138 → (t ≠ 5 ∨ k = P) → w'.heap[k]? = some (.cells c t f) := fun k c t f hk ht hp => by
    refine (hr.same k (lt_of_block hk) ?_ ?_).trans hk
    · rintro rfl
      rw [k1] at hk
      simp only [Option.some.injEq, Obj.cells.injEq] at hk
      exact ht hk.2.1.symm
    · rintro rfl
      rcases hp with hp | hp
      · exact hp (hq _ _ _ hk)
      · exact hQP hp
  refine ⟨h.rt.blk (fun k c t f h1 h2 => sm k c t f h1 (rt_ty h2).2.2.1 ?_), h.tr.blk (fun c f h1 => sm _ _ _ _ h1 (by decide) (.inl (by decide))), h.below.trans (hr.below N hQN hN hNw), fun k c t f h1 h2 h3 h4 h5 h6 => ?_, hr.blk cur 138 35 k1 k2, (hr.rest 0 (by decide)).trans h.c0, (hr.rest 1 (by decide)).trans h.c1, (hr.rest 12 (by decide)).trans h.c12, (hr.rest 13 (by decide)).trans h.c13, (hr.rest 14 (by decide)).trans h.c14, .inr ⟨Q, c, ent, _, _, Z', hr.c31, hr.c32, hr.c33, hr.c34, rfl, hSc, hc, hr.row, hQP, hQN, Nat.le_refl _, hZ, hSc⟩, ⟨dc, sm _ _ _ _ d1 (by decide) (.inl (by decide)), d2⟩⟩
  · rcases h2 with h | h | h | h | h | ⟨h, hk⟩
    · exact .inl (by subst h; decide)
    · exact .inl (by subst h; decide)
    · exact .inl (by subst h; decide)
    · exact .inl (by subst h; decide)
    · exact .inl (by subst h; decide)
    · exact .inr hk
  · have hk := h.keep k c t f h1 h2 h3 h4 h5 h6
    refine (hr.same k (lt_of_block hk) h5 ?_).trans hk
    rintro rfl
    exact h2 (hq _ _ _ hk)
end Go.Proofs.Qxb6613648aFmt

/-
  FnFillTrunInTwoPiecesAsInOne: one walker, another row.
-/
import Derived.Test.Qxb6613648aFmtLaw7R
namespace Go.Proofs.Qxb6613648aFmt
open Go.RowKit
set_option linter.unusedVariables false
set_option linter.unusedSimpArgs false

/-- The same walker, another row to fill. -/
theorem FW.redirect {fb mb rb tb sb P len qb cp cn e0 v N wb D L : Nat} {far left a sa fa sz x fl : Int} {hs b hf : Bool} {B : Nat → Int} {w0 wS : World} {w : World} {ent raw D' L' : Nat} {at' : Int} {O Z O' Z' : Nat → Int} {Y Y' : Nat → Bool} (h : FW fb mb rb tb sb P len qb cp cn e0 v N wb D L far left a sa fa sz x fl hs b hf B w0 wS w ent raw at' O Z Y) (hd : SRow w D' L' O' Z' Y') : FW fb mb rb tb sb P len qb cp cn e0 v N wb D' L' far left a sa fa sz x fl hs b hf B w0 w w ent raw at' O' Z' Y' :=
  ⟨h.rt, h.tr, h.below, fun k c t f h _ _ _ _ _ => h, h.wk, h.c0, h.c1, h.c12, h.c13, h.c14, h.cur, hd⟩

/-- Blocks that came later are of no account. -/
theorem FW.later {fb mb rb tb sb P len qb cp cn e0 v N wb D L : Nat} {far left a sa fa sz x fl : Int} {hs b hf : Bool} {B : Nat → Int} {w0 wS : World} {w w' : World} {ent raw : Nat} {at' : Int} {O Z : Nat → Int} {Y : Nat → Bool} (h : FW fb mb rb tb sb P len qb cp cn e0 v N wb D L far left a sa fa sz x fl hs b hf B w0 wS w ent raw at' O Z Y) (hN : N ≤ wb) (hb : Below w.heap.size w w') : FW fb mb rb tb sb P len qb cp cn e0 v N wb D L far left a sa fa sz x fl hs b hf B w0 wS w' ent raw at' O Z Y := by
  obtain ⟨cu, k1, k2⟩ := h.wk
  exact h.own (hb.mono (Nat.le_trans hN (Nat.le_of_lt (lt_of_block k1)))) (fun j c t f g _ _ => (hb.block j (lt_of_block g)).trans g)

/-- A row of samples that is no one's to fill. -/
theorem FW.kept {fb mb rb tb sb P len qb cp cn e0 v N wb D L : Nat} {far left a sa fa sz x fl : Int} {hs b hf : Bool} {B : Nat → Int} {w0 wS : World} {w : World} {ent raw D' L' : Nat} {at' : Int} {O Z O' Z' : Nat → Int} {Y Y' : Nat → Bool} (h : FW fb mb rb tb sb P len qb cp cn e0 v N wb D L far left a sa fa sz x fl hs b hf B w0 wS w ent raw at' O Z Y) (hd : SRow wS D' L' O' Z' Y') (hne : D' ≠ D) (hnw : D' ≠ wb) : SRow w D' L' O' Z' Y' :=
  hd.of_block (fun c f g => h.keep D' c 78 f g (by decide) (by decide) (by decide) hnw hne)

/-- A walker that is another's. -/
theorem FW.keptCells {fb mb rb tb sb P len qb cp cn e0 v N wb D L : Nat} {far left a sa fa sz x fl : Int} {hs b hf : Bool} {B : Nat → Int} {w0 wS : World} {w : World} {ent raw k : Nat} {at' : Int} {O Z : Nat → Int} {Y : Nat → Bool} (h : FW fb mb rb tb sb P len qb cp cn e0 v N wb D L far left a sa fa sz x fl hs b hf B w0 wS w ent raw at' O Z Y) (hk : ∃ cur, wS.heap[k]? = some (.cells cur 138 (0, 0)) ∧ cur.size = 35) (hne : k ≠ D) (hnw : k ≠ wb) (j : Nat) : w.cell? ⟨k, j, none⟩ = wS.cell? ⟨k, j, none⟩ := by
  obtain ⟨cu, k1, k2⟩ := hk
  exact World.cell?_of_block ((h.keep k cu 138 _ k1 (by decide) (by decide) (by decide) hnw hne).trans k1.symm)
end Go.Proofs.Qxb6613648aFmt

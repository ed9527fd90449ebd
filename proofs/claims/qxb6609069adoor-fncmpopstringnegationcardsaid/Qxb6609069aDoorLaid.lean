/-
  What the listed table 'cmpOpSymbols' gives the walks: its ten cells; and how it reads again behind the call. Shared by both laws of this seat.
-/
import Derived.Test.Qxb6609069aDoorRows
import Derived.WalkKit
import Derived.ProofKit
import Derived.LaidMore
import Derived.OpenShut
import Derived.Below
import Derived.WalkSmall
import Derived.Stop.Joined
namespace Go.Proofs.Qxb6609069aDoor
open Go.ChangeShapes Go.WideShapes Go.ChangeAt Go.WideMaps Go.WideElems Go.RowKit

theorem own : ownKnob Tryd.prog.godebug = none := by kernel_rfl
theorem laidOut : laidOutB Tryd.prog = true := by kernel_rfl
/-- The table's name, as the given row lists it. -/
def symN : String := Rows.fnCmpOpStringDistinctShapesSpec.vars.headD ""
theorem gSym : Tryd.prog.globalNamed symN = some 0 := by kernel_rfl
theorem tSym : (Tryd.prog.globals[0]?).map (·.type) = some 31 := by kernel_rfl
theorem cells31 : Tryd.prog.cellsOf 31 = 10 := by kernel_rfl
theorem cells9 : Tryd.prog.cellsOf 9 = 1 := by kernel_rfl

/-- The texts of the ten comparison operators. -/
def syms : List ByteArray := [⟨#[61, 61]⟩, ⟨#[33, 61]⟩, ⟨#[60]⟩, ⟨#[60, 61]⟩, ⟨#[62]⟩, ⟨#[62, 61]⟩, ⟨#[105, 115]⟩, ⟨#[105, 115, 32, 110, 111, 116]⟩, ⟨#[105, 110]⟩, ⟨#[110, 111, 116, 32, 105, 110]⟩]
def cells10 : Array Value := #[.string ⟨#[61, 61]⟩, .string ⟨#[33, 61]⟩, .string ⟨#[60]⟩, .string ⟨#[60, 61]⟩, .string ⟨#[62]⟩, .string ⟨#[62, 61]⟩, .string ⟨#[105, 115]⟩, .string ⟨#[105, 115, 32, 110, 111, 116]⟩, .string ⟨#[105, 110]⟩, .string ⟨#[110, 111, 116, 32, 105, 110]⟩]

theorem bytes_of {s : ByteArray} {l : List UInt8} (h : s.data.toList = l) : s = ⟨l.toArray⟩ := by
  obtain ⟨⟨d⟩⟩ := s
  simp at h
  subst h
  rfl

/-- The table's datum. -/
def symD {H : Type} : DataW H := .agg [.lit (.string [61, 61]), .lit (.string [33, 61]), .lit (.string [60]), .lit (.string [60, 61]), .lit (.string [62]), .lit (.string [62, 61]), .lit (.string [105, 115]), .lit (.string [105, 115, 32, 110, 111, 116]), .lit (.string [105, 110]), .lit (.string [110, 111, 116, 32, 105, 110])]
abbrev laid1 : List (String × DataW Unit) := [(symN, symD)]

/-- From the row's condition to the table's cells. -/
theorem cells_of_laid {W : World} (h : laidMetH Tryd.prog laid1 W) : W.var? Tryd.prog symN = some cells10 := by
  rw [MakeChecks.laidMetH_plain _ _ _ (by kernel_rfl)] at h
  obtain ⟨ps, ⟨g, t, cs, fuel, p, q, hg, ht, hvar, hd, _, _⟩, _⟩ := h
  obtain rfl := Option.some.inj (gSym.symm.trans hg)
  obtain rfl := Option.some.inj (tSym.symm.trans ht)
  rw [hvar]
  congr 1
  obtain ⟨xs, m, rfl, hx, hlen, hn, hel⟩ := DataW.trod_array Tryd.underlying31 hd
  rw [cells31] at hlen
  rw [cells9] at hel
  obtain ⟨l⟩ := cs
  simp only [Prod.mk.injEq, DataW.agg.injEq, symD] at hx
  have hx1 := hx.1
  clear hx hvar hg ht hd
  have one : ∀ i, i < 10 → ∃ s : ByteArray, l[i]? = some (.string s) ∧ (xs[i]?).map (·.1) = some (.lit (.string s.data.toList)) := by
    intro i hi
    have h1 := hel i hi
    have hil : i < xs.length := by omega
    rw [List.getElem?_eq_getElem hil] at h1
    obtain ⟨s, e1, e2, _⟩ := DataW.trod_string Tryd.underlying9 h1
    refine ⟨s, ?_, ?_⟩
    · have : ((l.drop (i * 1)).take 1)[0]? = some (.string s) := by rw [show ((l.drop (i * 1)).take 1) = [.string s] from e1]; rfl
      simpa using this
    · rw [List.getElem?_eq_getElem hil, e2]; rfl
  have tw : ∀ (i : Nat) (bs : List UInt8), i < 10 → (xs.map (·.1))[i]? = some (.lit (.string bs)) → l[i]? = some (.string ⟨bs.toArray⟩) := by
    intro i bs hi hb
    obtain ⟨s, e1, e2⟩ := one i hi
    rw [List.getElem?_map, e2] at hb
    simp at hb
    rw [e1, bytes_of hb]
  rw [← hx1] at tw
  have l0 := tw 0 _ (by decide) rfl
  have l1 := tw 1 _ (by decide) rfl
  have l2 := tw 2 _ (by decide) rfl
  have l3 := tw 3 _ (by decide) rfl
  have l4 := tw 4 _ (by decide) rfl
  have l5 := tw 5 _ (by decide) rfl
  have l6 := tw 6 _ (by decide) rfl
  have l7 := tw 7 _ (by decide) rfl
  have l8 := tw 8 _ (by decide) rfl
  have l9 := tw 9 _ (by decide) rfl
  clear tw one hel hx1
  obtain ⟨c0, c1, c2, c3, c4, c5, c6, c7, c8, c9, rfl⟩ : ∃ c0 c1 c2 c3 c4 c5 c6 c7 c8 c9, l = [c0, c1, c2, c3, c4, c5, c6, c7, c8, c9] := by
    match l, hlen with
    | [c0, c1, c2, c3, c4, c5, c6, c7, c8, c9], _ => exact ⟨c0, c1, c2, c3, c4, c5, c6, c7, c8, c9, rfl⟩
  simp at l0 l1 l2 l3 l4 l5 l6 l7 l8 l9
  subst l0 l1 l2 l3 l4 l5 l6 l7 l8 l9
  rfl

/-- The table, as it reads under whatever encoding. -/
theorem reads_table {H : Type} (enc : TypeId × Value → H) (W : World) (sp : Nat → Bool) : DataW.trod enc Tryd.prog W 0 sp true 3 31 cells10.toList = some (symD, []) := by kernel_rfl

/-- The door's own heap meets the condition. -/
theorem door_met (os : Os) (args : Array Value) : laidMetH Tryd.prog laid1 ((World.doorLaid Tryd.prog 400 os).forCall (fun _ _ => 0) ⟨#[], args, []⟩).memory :=
  laidMetH_of_parts3 (fuel := 8) (laidMet_of_run' 8 (by kernel_rfl) (by kernel_rfl)) (by kernel_rfl) (by kernel_rfl)

/-- Each cell of the table. -/
theorem cell_of {W : World} (hv : W.var? Tryd.prog symN = some cells10) (i : Nat) (h : i < syms.length) : W.cell? ⟨0, i, none⟩ = some (.string syms[i]) := by
  have := World.var?_cell gSym hv i
  rw [this]
  match i, h with
  | 0, _ => rfl
  | 1, _ => rfl
  | 2, _ => rfl
  | 3, _ => rfl
  | 4, _ => rfl
  | 5, _ => rfl
  | 6, _ => rfl
  | 7, _ => rfl
  | 8, _ => rfl
  | 9, _ => rfl
  | n + 10, h => exact absurd h (by simp [syms])
end Go.Proofs.Qxb6609069aDoor

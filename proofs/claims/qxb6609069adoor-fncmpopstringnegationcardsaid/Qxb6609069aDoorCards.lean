/-
  DERIVED. GIVEN WITH THE SEED: THE CARDS: each row of Qxb6609069aDoorRows.lean that lists a variable, with what it lists TIED to the program's text (the seventh form; the later family's looks); each row that meets fmt, with fmt's text TOLD by the authors' own Lean function (tested against real Go, not proved from fmt's source: count such statements apart). THE CARD IS WHAT COUNTS. Prove the row's statement (the work); the ties are given (Qxb6609069aDoorTie.lean); close each card by the builder's one call (the guide's Derived/Test/ToyasCard.lean, 'card_holds'). Laid BY PROGRAM, IN A SANDBOX (cutbox-door.mjs). By AI agents, Wed Nov 11 2026. No macro, syntax, notation, axiom, sorry.
-/
import Derived.Test.Qxb6609069aDoorRows
import GoSem.ClaimSeven
namespace Go.Proofs.Qxb6609069aDoor
namespace Rows

/-- THE TIED CARD OF 'zzlaws_syntax_b1.FnCmpOpStringDistinctShapes'. -/
def fnCmpOpStringDistinctShapesCard : Claim7 := { stood := { row := fnCmpOpStringDistinctShapesRow, standIns := [], harness := (true, "0a601da4616c8bf135264a7437ce25a98aa6b3470021dc085f9358985bc59e94"), looks := false }, kinds := [], alts := [], laidByText := true, laidKinds := [.data], laidTests := true, laidLooks := .later }
def FnCmpOpStringDistinctShapesCardSaid : Prop := Claim7.holds Tryd.pinned (.plain (OpenSpec.ofChange fnCmpOpStringDistinctShapesSpec)) fnCmpOpStringDistinctShapesCard

/-- THE TIED CARD OF 'zzlaws_syntax_b1.FnCmpOpStringNegation'. -/
def fnCmpOpStringNegationCard : Claim7 := { stood := { row := fnCmpOpStringNegationRow, standIns := [], harness := (true, "0a601da4616c8bf135264a7437ce25a98aa6b3470021dc085f9358985bc59e94"), looks := false }, kinds := [], alts := [], laidByText := true, laidKinds := [.data], laidTests := true, laidLooks := .later }
def FnCmpOpStringNegationCardSaid : Prop := Claim7.holds Tryd.pinned (.plain (OpenSpec.ofChange fnCmpOpStringNegationSpec)) fnCmpOpStringNegationCard
end Rows
end Go.Proofs.Qxb6609069aDoor

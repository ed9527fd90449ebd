/-
  NARROWER THAN 'FOR EVERY INPUT', by the rows' own cells (each row's printed sentence says how): FnCmpOpStringDistinctShapes: laid · FnCmpOpStringNegation: laid.
  DERIVED. THE GIVEN ROWS OF THIS SEAT. 2 by the template 'for every input the law returns true; each argument reads behind the call as it read before'; 0 by the template 'total and deterministic' (their statements: Qxb6609069aDoorTotals.lean).
  GIVEN WITH THE SEED: the statements are not yours to turn. If you find one false, say at which input.
  Laid BY PROGRAM, IN A SANDBOX (cutbox-rows.mjs): the forced cells as the released guide's own fill.sh prints them over the translation 1f7d813a792156af… (all of the seat's roots in one cut). By AI agents, Wed Nov 11 2026. No macro, syntax, notation, axiom, sorry.
-/
import Derived.Test.Qxb6609069aDoorChecked
import GoSem.Claim
import GoSem.ClaimJoined
import GoSem.ClaimMapViews
import Derived.JoinedTies
import Derived.KernelRfl
namespace Go.Proofs.Qxb6609069aDoor
/- THE CELL 'sum', in the pinned program and in every row, IS THE sha256 OF THE DUMP (.gsa) THAT Qxb6609069aDoorProg.lean LOADS. Nothing in Lean hashes anything: it is a label: what it is worth is what the hold of that sum in a sandbox is worth. -/
noncomputable def Tryd.pinned : Pinned := { name := "qxb6609069adoor", sum := "1f7d813a792156afdcdbf80148f05d2da0863037c0a051eb477d42889877ca05", checked := Tryd.checked }
namespace Rows
def none {H : Type} : Left H := { results := [], args := [] }

/- WHAT THE LISTED PACKAGE-LEVEL VARIABLES READ AS WHEN THE CALL BEGINS. Each datum BY PROGRAM (the guide's laid-datum.mjs) off the statement by which the dump's own 'gosem.cut.vars' lays the variable. In a bare row this is a premise. The card (Qxb6609069aDoorCards.lean) ties it to the program's text. -/
def laid_example_com_gannet_gannet_syntax_cmpOpSymbols {H : Type} : DataW H := .agg [.lit (.string [61, 61]), .lit (.string [33, 61]), .lit (.string [60]), .lit (.string [60, 61]), .lit (.string [62]), .lit (.string [62, 61]), .lit (.string [105, 115]), .lit (.string [105, 115, 32, 110, 111, 116]), .lit (.string [105, 110]), .lit (.string [110, 111, 116, 32, 105, 110])]

/-- 'zzlaws_syntax_b1.FnCmpOpStringDistinctShapes': WHATEVER THE INPUT: true; the input reads as it did. -/
def fnCmpOpStringDistinctShapesSpec : ChangeSpec := { name := "fnCmpOpStringDistinctShapes", vars := ["example.com/gannet/gannet/syntax.cmpOpSymbols"], fn := fun _ => fun
  | [d1, d2, g1] => { results := [.lit (.bool true)], args := [d1, d2], vars := [g1] }
  | _ => none }
def fnCmpOpStringDistinctShapesRow : OpenClaim := { program := "qxb6609069adoor", sum := "1f7d813a792156afdcdbf80148f05d2da0863037c0a051eb477d42889877ca05", func := "example.com/gannet/gannet/zzlaws_syntax_b1.FnCmpOpStringDistinctShapes", spec := "fnCmpOpStringDistinctShapes", named := ["example.com/gannet/gannet/syntax.cmpOpSymbols"], apart := false, laid := [("example.com/gannet/gannet/syntax.cmpOpSymbols", laid_example_com_gannet_gannet_syntax_cmpOpSymbols)] }
def FnCmpOpStringDistinctShapesSaid : Prop := fnCmpOpStringDistinctShapesRow.holds Tryd.pinned (OpenSpec.ofChange fnCmpOpStringDistinctShapesSpec)

/-- ITS FALSE NEIGHBOUR: 'it returns false'. Refute it at one input. -/
def fnCmpOpStringDistinctShapesWrong : ChangeSpec := { name := "fnCmpOpStringDistinctShapes", vars := ["example.com/gannet/gannet/syntax.cmpOpSymbols"], fn := fun _ => fun
  | [d1, d2, g1] => { results := [.lit (.bool false)], args := [d1, d2], vars := [g1] }
  | _ => none }
def FnCmpOpStringDistinctShapesWrongFalsely : Prop := fnCmpOpStringDistinctShapesRow.holds Tryd.pinned (OpenSpec.ofChange fnCmpOpStringDistinctShapesWrong)

/-- 'zzlaws_syntax_b1.FnCmpOpStringNegation': WHATEVER THE INPUT: true; the input reads as it did. -/
def fnCmpOpStringNegationSpec : ChangeSpec := { name := "fnCmpOpStringNegation", vars := ["example.com/gannet/gannet/syntax.cmpOpSymbols"], fn := fun _ => fun
  | [d, g1] => { results := [.lit (.bool true)], args := [d], vars := [g1] }
  | _ => none }
def fnCmpOpStringNegationRow : OpenClaim := { program := "qxb6609069adoor", sum := "1f7d813a792156afdcdbf80148f05d2da0863037c0a051eb477d42889877ca05", func := "example.com/gannet/gannet/zzlaws_syntax_b1.FnCmpOpStringNegation", spec := "fnCmpOpStringNegation", named := ["example.com/gannet/gannet/syntax.cmpOpSymbols"], apart := false, laid := [("example.com/gannet/gannet/syntax.cmpOpSymbols", laid_example_com_gannet_gannet_syntax_cmpOpSymbols)] }
def FnCmpOpStringNegationSaid : Prop := fnCmpOpStringNegationRow.holds Tryd.pinned (OpenSpec.ofChange fnCmpOpStringNegationSpec)

/-- ITS FALSE NEIGHBOUR: 'it returns false'. Refute it at one input. -/
def fnCmpOpStringNegationWrong : ChangeSpec := { name := "fnCmpOpStringNegation", vars := ["example.com/gannet/gannet/syntax.cmpOpSymbols"], fn := fun _ => fun
  | [d, g1] => { results := [.lit (.bool false)], args := [d], vars := [g1] }
  | _ => none }
def FnCmpOpStringNegationWrongFalsely : Prop := fnCmpOpStringNegationRow.holds Tryd.pinned (OpenSpec.ofChange fnCmpOpStringNegationWrong)

end Rows
end Go.Proofs.Qxb6609069aDoor

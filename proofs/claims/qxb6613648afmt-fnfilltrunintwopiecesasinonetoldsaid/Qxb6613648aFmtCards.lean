/-
  DERIVED. GIVEN WITH THE SEED: THE CARDS: each row of Qxb6613648aFmtRows.lean that lists a variable, with what it lists TIED to the program's text (the seventh form; the later family's looks); each row that meets fmt, with fmt's text TOLD by the authors' own Lean function (tested against real Go, not proved from fmt's source: count such statements apart). THE CARD IS WHAT COUNTS. Prove the row's statement (the work); the ties are given (Qxb6613648aFmtTie.lean); close each card by the builder's one call (the guide's Derived/Test/ToyasCard.lean, 'card_holds'). Laid BY PROGRAM, IN A SANDBOX (cutbox-door.mjs). By AI agents, Wed Nov 11 2026. No macro, syntax, notation, axiom, sorry.
-/
import Derived.Test.Qxb6613648aFmtRows
import GoSem.ClaimSeven
namespace Go.Proofs.Qxb6613648aFmt
namespace Rows

/-- THE TOLD CARD OF 'zzlaws_pkg_mp4_b1.FnReadTfhdMatchesFieldLayout'. -/
def fnReadTfhdMatchesFieldLayoutCard : Claim7 := { stood := { row := fnReadTfhdMatchesFieldLayoutRow, standIns := [], harness := (true, "cbb91ce4de52000fb1e4bf73d486b1b0b25d035a1fba6cb9c8d85e4d4c99cf2a"), looks := true }, told := true, goes := false }
def FnReadTfhdMatchesFieldLayoutToldSaid : Prop := Claim7.holds Tryf.pinned (.plain (OpenSpec.ofChange fnReadTfhdMatchesFieldLayoutSpec)) fnReadTfhdMatchesFieldLayoutCard
/-- ITS FALSE NEIGHBOUR. Refute it at one input. -/
def FnReadTfhdMatchesFieldLayoutToldWrongFalsely : Prop := Claim7.holds Tryf.pinned (.plain (OpenSpec.ofChange fnReadTfhdMatchesFieldLayoutWrong)) fnReadTfhdMatchesFieldLayoutCard

/-- THE TOLD CARD OF 'zzlaws_pkg_mp4_b1.FnReadTfhdTwiceAddsTrackOnce'. -/
def fnReadTfhdTwiceAddsTrackOnceCard : Claim7 := { stood := { row := fnReadTfhdTwiceAddsTrackOnceRow, standIns := [], harness := (true, "cbb91ce4de52000fb1e4bf73d486b1b0b25d035a1fba6cb9c8d85e4d4c99cf2a"), looks := true }, told := true, goes := false }
def FnReadTfhdTwiceAddsTrackOnceToldSaid : Prop := Claim7.holds Tryf.pinned (.plain (OpenSpec.ofChange fnReadTfhdTwiceAddsTrackOnceSpec)) fnReadTfhdTwiceAddsTrackOnceCard
/-- ITS FALSE NEIGHBOUR. Refute it at one input. -/
def FnReadTfhdTwiceAddsTrackOnceToldWrongFalsely : Prop := Claim7.holds Tryf.pinned (.plain (OpenSpec.ofChange fnReadTfhdTwiceAddsTrackOnceWrong)) fnReadTfhdTwiceAddsTrackOnceCard

/-- THE TOLD CARD OF 'zzlaws_pkg_mp4_b1.FnReadTrunMatchesRunLayout'. -/
def fnReadTrunMatchesRunLayoutCard : Claim7 := { stood := { row := fnReadTrunMatchesRunLayoutRow, standIns := [], harness := (true, "cbb91ce4de52000fb1e4bf73d486b1b0b25d035a1fba6cb9c8d85e4d4c99cf2a"), looks := true }, told := true, goes := false }
def FnReadTrunMatchesRunLayoutToldSaid : Prop := Claim7.holds Tryf.pinned (.plain (OpenSpec.ofChange fnReadTrunMatchesRunLayoutSpec)) fnReadTrunMatchesRunLayoutCard
/-- ITS FALSE NEIGHBOUR. Refute it at one input. -/
def FnReadTrunMatchesRunLayoutToldWrongFalsely : Prop := Claim7.holds Tryf.pinned (.plain (OpenSpec.ofChange fnReadTrunMatchesRunLayoutWrong)) fnReadTrunMatchesRunLayoutCard

/-- THE TOLD CARD OF 'zzlaws_pkg_mp4_b1.FnReadTrunChainsRuns'. -/
def fnReadTrunChainsRunsCard : Claim7 := { stood := { row := fnReadTrunChainsRunsRow, standIns := [], harness := (true, "cbb91ce4de52000fb1e4bf73d486b1b0b25d035a1fba6cb9c8d85e4d4c99cf2a"), looks := true }, told := true, goes := false }
def FnReadTrunChainsRunsToldSaid : Prop := Claim7.holds Tryf.pinned (.plain (OpenSpec.ofChange fnReadTrunChainsRunsSpec)) fnReadTrunChainsRunsCard
/-- ITS FALSE NEIGHBOUR. Refute it at one input. -/
def FnReadTrunChainsRunsToldWrongFalsely : Prop := Claim7.holds Tryf.pinned (.plain (OpenSpec.ofChange fnReadTrunChainsRunsWrong)) fnReadTrunChainsRunsCard

/-- THE TOLD AND TIED CARD OF 'zzlaws_pkg_mp4_b1.FnFillTrunLaysOutTheRun'. -/
def fnFillTrunLaysOutTheRunCard : Claim7 := { stood := { row := fnFillTrunLaysOutTheRunRow, standIns := [], harness := (true, "cbb91ce4de52000fb1e4bf73d486b1b0b25d035a1fba6cb9c8d85e4d4c99cf2a"), looks := true }, told := true, laidByText := true, laidKinds := [.sentinel, .sentinel], laidTests := true, laidLooks := .later, goes := false }
def FnFillTrunLaysOutTheRunToldSaid : Prop := Claim7.holds Tryf.pinned (.plain (OpenSpec.ofChange fnFillTrunLaysOutTheRunSpec)) fnFillTrunLaysOutTheRunCard
/-- ITS FALSE NEIGHBOUR. Refute it at one input. -/
def FnFillTrunLaysOutTheRunToldWrongFalsely : Prop := Claim7.holds Tryf.pinned (.plain (OpenSpec.ofChange fnFillTrunLaysOutTheRunWrong)) fnFillTrunLaysOutTheRunCard

/-- THE TOLD AND TIED CARD OF 'zzlaws_pkg_mp4_b1.FnFillTrunInTwoPiecesAsInOne'. -/
def fnFillTrunInTwoPiecesAsInOneCard : Claim7 := { stood := { row := fnFillTrunInTwoPiecesAsInOneRow, standIns := [], harness := (true, "cbb91ce4de52000fb1e4bf73d486b1b0b25d035a1fba6cb9c8d85e4d4c99cf2a"), looks := true }, told := true, laidByText := true, laidKinds := [.sentinel, .sentinel], laidTests := true, laidLooks := .later, goes := false }
def FnFillTrunInTwoPiecesAsInOneToldSaid : Prop := Claim7.holds Tryf.pinned (.plain (OpenSpec.ofChange fnFillTrunInTwoPiecesAsInOneSpec)) fnFillTrunInTwoPiecesAsInOneCard
/-- ITS FALSE NEIGHBOUR. Refute it at one input. -/
def FnFillTrunInTwoPiecesAsInOneToldWrongFalsely : Prop := Claim7.holds Tryf.pinned (.plain (OpenSpec.ofChange fnFillTrunInTwoPiecesAsInOneWrong)) fnFillTrunInTwoPiecesAsInOneCard
end Rows
end Go.Proofs.Qxb6613648aFmt

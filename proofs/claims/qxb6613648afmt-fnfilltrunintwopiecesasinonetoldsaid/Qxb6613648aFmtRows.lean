/-
  NARROWER THAN 'FOR EVERY INPUT', by the rows' own cells (each row's printed sentence says how): FnFillTrunLaysOutTheRun: laid · FnFillTrunInTwoPiecesAsInOne: laid.
  DERIVED. THE GIVEN ROWS OF THIS SEAT. 6 by the template 'for every input the law returns true; each argument reads behind the call as it read before'; 0 by the template 'total and deterministic' (their statements: Qxb6613648aFmtTotals.lean).
  GIVEN WITH THE SEED: the statements are not yours to turn. If you find one false, say at which input.
  Laid BY PROGRAM, IN A SANDBOX (cutbox-rows.mjs): the forced cells as the released guide's own fill.sh prints them over the translation 3992134e4ad31e80… (all of the seat's roots in one cut). By AI agents, Wed Nov 11 2026. No macro, syntax, notation, axiom, sorry.
-/
import Derived.Test.Qxb6613648aFmtChecked
import GoSem.Claim
import GoSem.ClaimJoined
import GoSem.ClaimMapViews
import Derived.JoinedTies
import Derived.KernelRfl
namespace Go.Proofs.Qxb6613648aFmt
/- THE CELL 'sum', in the pinned program and in every row, IS THE sha256 OF THE DUMP (.gsa) THAT Qxb6613648aFmtProg.lean LOADS. Nothing in Lean hashes anything: it is a label: what it is worth is what the hold of that sum in a sandbox is worth. -/
noncomputable def Tryf.pinned : Pinned := { name := "qxb6613648afmt", sum := "3992134e4ad31e805d4396e81863c30a8608c5f9c0171c8d2787eabeaed1a856", checked := Tryf.checked }
namespace Rows
def none {H : Type} : Left H := { results := [], args := [] }

/- WHAT THE LISTED PACKAGE-LEVEL VARIABLES READ AS WHEN THE CALL BEGINS. Each datum BY PROGRAM (the guide's laid-datum.mjs) off the statement by which the dump's own 'gosem.cut.vars' lays the variable. In a bare row this is a premise. The card (Qxb6613648aFmtCards.lean) ties it to the program's text. -/
def laid_io_EOF {H : Type} : DataW H := .iface "*errors.errorString" (.ptr (.agg [.lit (.string [69, 79, 70])]))
def laid_io_ErrUnexpectedEOF {H : Type} : DataW H := .iface "*errors.errorString" (.ptr (.agg [.lit (.string [117, 110, 101, 120, 112, 101, 99, 116, 101, 100, 32, 69, 79, 70])]))

/-- 'zzlaws_pkg_mp4_b1.FnReadTfhdMatchesFieldLayout': WHATEVER THE INPUT: true; the input reads as it did. -/
def fnReadTfhdMatchesFieldLayoutSpec : ChangeSpec := { name := "fnReadTfhdMatchesFieldLayout", fn := fun _ => fun
  | [d1, d2, d3, d4, d5, d6, d7, d8, d9] => { results := [.lit (.bool true)], args := [d1, d2, d3, d4, d5, d6, d7, d8, d9] }
  | _ => none }
def fnReadTfhdMatchesFieldLayoutRow : OpenClaim := { program := "qxb6613648afmt", sum := "3992134e4ad31e805d4396e81863c30a8608c5f9c0171c8d2787eabeaed1a856", func := "example.com/framewise/framewise/zzlaws_pkg_mp4_b1.FnReadTfhdMatchesFieldLayout", spec := "fnReadTfhdMatchesFieldLayout", stops := ["fmt.errorf, its operands' methods called", "fmt.Sprintf"], inPlace := ["fmt.errorf"], unfollowed := true, recurses := true, named := ["encoding/binary.BigEndian"], apart := false }
/-- NO THEOREM (fmt's text is open here; it may be false): for the released tool's asking of the row's closed facts alone. THE STATEMENT IS 'FnReadTfhdMatchesFieldLayoutToldSaid' (Qxb6613648aFmtCards.lean). -/
def FnReadTfhdMatchesFieldLayoutFormAsk : Prop := fnReadTfhdMatchesFieldLayoutRow.holds Tryf.pinned (OpenSpec.ofChange fnReadTfhdMatchesFieldLayoutSpec)

/-- ITS FALSE NEIGHBOUR: 'it returns false'. Refute it at one input. -/
def fnReadTfhdMatchesFieldLayoutWrong : ChangeSpec := { name := "fnReadTfhdMatchesFieldLayout", fn := fun _ => fun
  | [d1, d2, d3, d4, d5, d6, d7, d8, d9] => { results := [.lit (.bool false)], args := [d1, d2, d3, d4, d5, d6, d7, d8, d9] }
  | _ => none }
def FnReadTfhdMatchesFieldLayoutWrongFormAsk : Prop := fnReadTfhdMatchesFieldLayoutRow.holds Tryf.pinned (OpenSpec.ofChange fnReadTfhdMatchesFieldLayoutWrong)

/-- 'zzlaws_pkg_mp4_b1.FnReadTfhdTwiceAddsTrackOnce': WHATEVER THE INPUT: true; the input reads as it did. -/
def fnReadTfhdTwiceAddsTrackOnceSpec : ChangeSpec := { name := "fnReadTfhdTwiceAddsTrackOnce", fn := fun _ => fun
  | [d1, d2, d3, d4, d5, d6, d7] => { results := [.lit (.bool true)], args := [d1, d2, d3, d4, d5, d6, d7] }
  | _ => none }
def fnReadTfhdTwiceAddsTrackOnceRow : OpenClaim := { program := "qxb6613648afmt", sum := "3992134e4ad31e805d4396e81863c30a8608c5f9c0171c8d2787eabeaed1a856", func := "example.com/framewise/framewise/zzlaws_pkg_mp4_b1.FnReadTfhdTwiceAddsTrackOnce", spec := "fnReadTfhdTwiceAddsTrackOnce", stops := ["fmt.errorf, its operands' methods called", "fmt.Sprintf"], inPlace := ["fmt.errorf"], unfollowed := true, recurses := true, named := ["encoding/binary.BigEndian"], apart := false }
/-- NO THEOREM (fmt's text is open here; it may be false): for the released tool's asking of the row's closed facts alone. THE STATEMENT IS 'FnReadTfhdTwiceAddsTrackOnceToldSaid' (Qxb6613648aFmtCards.lean). -/
def FnReadTfhdTwiceAddsTrackOnceFormAsk : Prop := fnReadTfhdTwiceAddsTrackOnceRow.holds Tryf.pinned (OpenSpec.ofChange fnReadTfhdTwiceAddsTrackOnceSpec)

/-- ITS FALSE NEIGHBOUR: 'it returns false'. Refute it at one input. -/
def fnReadTfhdTwiceAddsTrackOnceWrong : ChangeSpec := { name := "fnReadTfhdTwiceAddsTrackOnce", fn := fun _ => fun
  | [d1, d2, d3, d4, d5, d6, d7] => { results := [.lit (.bool false)], args := [d1, d2, d3, d4, d5, d6, d7] }
  | _ => none }
def FnReadTfhdTwiceAddsTrackOnceWrongFormAsk : Prop := fnReadTfhdTwiceAddsTrackOnceRow.holds Tryf.pinned (OpenSpec.ofChange fnReadTfhdTwiceAddsTrackOnceWrong)

/-- 'zzlaws_pkg_mp4_b1.FnReadTrunMatchesRunLayout': WHATEVER THE INPUT: true; the input reads as it did. -/
def fnReadTrunMatchesRunLayoutSpec : ChangeSpec := { name := "fnReadTrunMatchesRunLayout", fn := fun _ => fun
  | [d1, d2, d3, d4, d5, d6, d7] => { results := [.lit (.bool true)], args := [d1, d2, d3, d4, d5, d6, d7] }
  | _ => none }
def fnReadTrunMatchesRunLayoutRow : OpenClaim := { program := "qxb6613648afmt", sum := "3992134e4ad31e805d4396e81863c30a8608c5f9c0171c8d2787eabeaed1a856", func := "example.com/framewise/framewise/zzlaws_pkg_mp4_b1.FnReadTrunMatchesRunLayout", spec := "fnReadTrunMatchesRunLayout", stops := ["fmt.errorf, its operands' methods called", "fmt.Sprintf"], inPlace := ["fmt.errorf"], unfollowed := true, recurses := true, named := ["encoding/binary.BigEndian"], apart := false }
/-- NO THEOREM (fmt's text is open here; it may be false): for the released tool's asking of the row's closed facts alone. THE STATEMENT IS 'FnReadTrunMatchesRunLayoutToldSaid' (Qxb6613648aFmtCards.lean). -/
def FnReadTrunMatchesRunLayoutFormAsk : Prop := fnReadTrunMatchesRunLayoutRow.holds Tryf.pinned (OpenSpec.ofChange fnReadTrunMatchesRunLayoutSpec)

/-- ITS FALSE NEIGHBOUR: 'it returns false'. Refute it at one input. -/
def fnReadTrunMatchesRunLayoutWrong : ChangeSpec := { name := "fnReadTrunMatchesRunLayout", fn := fun _ => fun
  | [d1, d2, d3, d4, d5, d6, d7] => { results := [.lit (.bool false)], args := [d1, d2, d3, d4, d5, d6, d7] }
  | _ => none }
def FnReadTrunMatchesRunLayoutWrongFormAsk : Prop := fnReadTrunMatchesRunLayoutRow.holds Tryf.pinned (OpenSpec.ofChange fnReadTrunMatchesRunLayoutWrong)

/-- 'zzlaws_pkg_mp4_b1.FnReadTrunChainsRuns': WHATEVER THE INPUT: true; the input reads as it did. -/
def fnReadTrunChainsRunsSpec : ChangeSpec := { name := "fnReadTrunChainsRuns", fn := fun _ => fun
  | [d1, d2, d3, d4, d5, d6, d7, d8] => { results := [.lit (.bool true)], args := [d1, d2, d3, d4, d5, d6, d7, d8] }
  | _ => none }
def fnReadTrunChainsRunsRow : OpenClaim := { program := "qxb6613648afmt", sum := "3992134e4ad31e805d4396e81863c30a8608c5f9c0171c8d2787eabeaed1a856", func := "example.com/framewise/framewise/zzlaws_pkg_mp4_b1.FnReadTrunChainsRuns", spec := "fnReadTrunChainsRuns", stops := ["fmt.errorf, its operands' methods called", "fmt.Sprintf"], inPlace := ["fmt.errorf"], unfollowed := true, recurses := true, named := ["encoding/binary.BigEndian"], apart := false }
/-- NO THEOREM (fmt's text is open here; it may be false): for the released tool's asking of the row's closed facts alone. THE STATEMENT IS 'FnReadTrunChainsRunsToldSaid' (Qxb6613648aFmtCards.lean). -/
def FnReadTrunChainsRunsFormAsk : Prop := fnReadTrunChainsRunsRow.holds Tryf.pinned (OpenSpec.ofChange fnReadTrunChainsRunsSpec)

/-- ITS FALSE NEIGHBOUR: 'it returns false'. Refute it at one input. -/
def fnReadTrunChainsRunsWrong : ChangeSpec := { name := "fnReadTrunChainsRuns", fn := fun _ => fun
  | [d1, d2, d3, d4, d5, d6, d7, d8] => { results := [.lit (.bool false)], args := [d1, d2, d3, d4, d5, d6, d7, d8] }
  | _ => none }
def FnReadTrunChainsRunsWrongFormAsk : Prop := fnReadTrunChainsRunsRow.holds Tryf.pinned (OpenSpec.ofChange fnReadTrunChainsRunsWrong)

/-- 'zzlaws_pkg_mp4_b1.FnFillTrunLaysOutTheRun': WHATEVER THE INPUT: true; the input reads as it did. -/
def fnFillTrunLaysOutTheRunSpec : ChangeSpec := { name := "fnFillTrunLaysOutTheRun", fn := fun _ => fun
  | [d1, d2, d3, d4, d5, d6, d7, d8] => { results := [.lit (.bool true)], args := [d1, d2, d3, d4, d5, d6, d7, d8] }
  | _ => none }
def fnFillTrunLaysOutTheRunRow : OpenClaim := { program := "qxb6613648afmt", sum := "3992134e4ad31e805d4396e81863c30a8608c5f9c0171c8d2787eabeaed1a856", func := "example.com/framewise/framewise/zzlaws_pkg_mp4_b1.FnFillTrunLaysOutTheRun", spec := "fnFillTrunLaysOutTheRun", stops := ["fmt.errorf, its operands' methods called", "fmt.Sprintf"], inPlace := ["fmt.errorf", "internal/reflectlite.TypeOf"], unfollowed := true, recurses := true, named := ["encoding/binary.BigEndian", "io.EOF", "io.ErrUnexpectedEOF"], apart := false, laid := [("io.EOF", laid_io_EOF), ("io.ErrUnexpectedEOF", laid_io_ErrUnexpectedEOF)] }
/-- NO THEOREM (fmt's text is open here; it may be false): for the released tool's asking of the row's closed facts alone. THE STATEMENT IS 'FnFillTrunLaysOutTheRunToldSaid' (Qxb6613648aFmtCards.lean). -/
def FnFillTrunLaysOutTheRunFormAsk : Prop := fnFillTrunLaysOutTheRunRow.holds Tryf.pinned (OpenSpec.ofChange fnFillTrunLaysOutTheRunSpec)

/-- ITS FALSE NEIGHBOUR: 'it returns false'. Refute it at one input. -/
def fnFillTrunLaysOutTheRunWrong : ChangeSpec := { name := "fnFillTrunLaysOutTheRun", fn := fun _ => fun
  | [d1, d2, d3, d4, d5, d6, d7, d8] => { results := [.lit (.bool false)], args := [d1, d2, d3, d4, d5, d6, d7, d8] }
  | _ => none }
def FnFillTrunLaysOutTheRunWrongFormAsk : Prop := fnFillTrunLaysOutTheRunRow.holds Tryf.pinned (OpenSpec.ofChange fnFillTrunLaysOutTheRunWrong)

/-- 'zzlaws_pkg_mp4_b1.FnFillTrunInTwoPiecesAsInOne': WHATEVER THE INPUT: true; the input reads as it did. -/
def fnFillTrunInTwoPiecesAsInOneSpec : ChangeSpec := { name := "fnFillTrunInTwoPiecesAsInOne", fn := fun _ => fun
  | [d1, d2, d3, d4, d5, d6, d7, d8, d9] => { results := [.lit (.bool true)], args := [d1, d2, d3, d4, d5, d6, d7, d8, d9] }
  | _ => none }
def fnFillTrunInTwoPiecesAsInOneRow : OpenClaim := { program := "qxb6613648afmt", sum := "3992134e4ad31e805d4396e81863c30a8608c5f9c0171c8d2787eabeaed1a856", func := "example.com/framewise/framewise/zzlaws_pkg_mp4_b1.FnFillTrunInTwoPiecesAsInOne", spec := "fnFillTrunInTwoPiecesAsInOne", stops := ["fmt.errorf, its operands' methods called", "fmt.Sprintf"], inPlace := ["fmt.errorf", "internal/reflectlite.TypeOf"], unfollowed := true, recurses := true, named := ["encoding/binary.BigEndian", "io.EOF", "io.ErrUnexpectedEOF"], apart := false, laid := [("io.EOF", laid_io_EOF), ("io.ErrUnexpectedEOF", laid_io_ErrUnexpectedEOF)] }
/-- NO THEOREM (fmt's text is open here; it may be false): for the released tool's asking of the row's closed facts alone. THE STATEMENT IS 'FnFillTrunInTwoPiecesAsInOneToldSaid' (Qxb6613648aFmtCards.lean). -/
def FnFillTrunInTwoPiecesAsInOneFormAsk : Prop := fnFillTrunInTwoPiecesAsInOneRow.holds Tryf.pinned (OpenSpec.ofChange fnFillTrunInTwoPiecesAsInOneSpec)

/-- ITS FALSE NEIGHBOUR: 'it returns false'. Refute it at one input. -/
def fnFillTrunInTwoPiecesAsInOneWrong : ChangeSpec := { name := "fnFillTrunInTwoPiecesAsInOne", fn := fun _ => fun
  | [d1, d2, d3, d4, d5, d6, d7, d8, d9] => { results := [.lit (.bool false)], args := [d1, d2, d3, d4, d5, d6, d7, d8, d9] }
  | _ => none }
def FnFillTrunInTwoPiecesAsInOneWrongFormAsk : Prop := fnFillTrunInTwoPiecesAsInOneRow.holds Tryf.pinned (OpenSpec.ofChange fnFillTrunInTwoPiecesAsInOneWrong)

end Rows
end Go.Proofs.Qxb6613648aFmt

/-
  DERIVED. GIVEN WITH THE SEED: THE CARDS: each row of Qxb6608740aFmtRows.lean that lists a variable, with what it lists TIED to the program's text (the seventh form; the later family's looks); each row that meets fmt, with fmt's text TOLD by the authors' own Lean function (tested against real Go, not proved from fmt's source: count such statements apart). THE CARD IS WHAT COUNTS. Prove the row's statement (the work); the ties are given (Qxb6608740aFmtTie.lean); close each card by the builder's one call (the guide's Derived/Test/ToyasCard.lean, 'card_holds'). Laid BY PROGRAM, IN A SANDBOX (cutbox-door.mjs). By AI agents, Wed Nov 11 2026. No macro, syntax, notation, axiom, sorry.
-/
import Derived.Test.Qxb6608740aFmtRows
import GoSem.ClaimSeven
namespace Go.Proofs.Qxb6608740aFmt
namespace Rows

/-- THE TOLD AND TIED CARD OF 'zzlaws_internal_timeid_b1.FnFoundMarkReadsTheMarksFile'. -/
def fnFoundMarkReadsTheMarksFileCard : Claim7 := { stood := { row := fnFoundMarkReadsTheMarksFileRow, standIns := [], harness := (true, "abe8e628eed97885a40be97906d17ee30902b1723d57bf4f5232af59209ffe36"), looks := true }, told := true, laidByText := true, laidKinds := [.data, .data, .data, .data, .sentinel, .sentinel, .pinned], laidTests := true, laidLooks := .later, goes := false }
def FnFoundMarkReadsTheMarksFileToldSaid : Prop := Claim7.holds Tryf.pinned (.plain (OpenSpec.ofChange fnFoundMarkReadsTheMarksFileSpec)) fnFoundMarkReadsTheMarksFileCard
/-- ITS FALSE NEIGHBOUR. Refute it at one input. -/
def FnFoundMarkReadsTheMarksFileToldWrongFalsely : Prop := Claim7.holds Tryf.pinned (.plain (OpenSpec.ofChange fnFoundMarkReadsTheMarksFileWrong)) fnFoundMarkReadsTheMarksFileCard

/-- THE TOLD AND TIED CARD OF 'zzlaws_internal_timeid_b1.FnFoundMarkSeesAnAddedLine'. -/
def fnFoundMarkSeesAnAddedLineCard : Claim7 := { stood := { row := fnFoundMarkSeesAnAddedLineRow, standIns := [], harness := (true, "abe8e628eed97885a40be97906d17ee30902b1723d57bf4f5232af59209ffe36"), looks := true }, told := true, laidByText := true, laidKinds := [.data, .data, .data, .data, .sentinel, .sentinel, .pinned], laidTests := true, laidLooks := .later, goes := false }
def FnFoundMarkSeesAnAddedLineToldSaid : Prop := Claim7.holds Tryf.pinned (.plain (OpenSpec.ofChange fnFoundMarkSeesAnAddedLineSpec)) fnFoundMarkSeesAnAddedLineCard
/-- ITS FALSE NEIGHBOUR. Refute it at one input. -/
def FnFoundMarkSeesAnAddedLineToldWrongFalsely : Prop := Claim7.holds Tryf.pinned (.plain (OpenSpec.ofChange fnFoundMarkSeesAnAddedLineWrong)) fnFoundMarkSeesAnAddedLineCard
end Rows
end Go.Proofs.Qxb6608740aFmt

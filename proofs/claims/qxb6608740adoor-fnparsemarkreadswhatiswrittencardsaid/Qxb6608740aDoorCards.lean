/-
  DERIVED. GIVEN WITH THE SEED: THE CARDS: each row of Qxb6608740aDoorRows.lean that lists a variable, with what it lists TIED to the program's text (the seventh form; the later family's looks); each row that meets fmt, with fmt's text TOLD by the authors' own Lean function (tested against real Go, not proved from fmt's source: count such statements apart). THE CARD IS WHAT COUNTS. Prove the row's statement (the work); the ties are given (Qxb6608740aDoorTie.lean); close each card by the builder's one call (the guide's Derived/Test/ToyasCard.lean, 'card_holds'). Laid BY PROGRAM, IN A SANDBOX (cutbox-door.mjs). By AI agents, Wed Nov 11 2026. No macro, syntax, notation, axiom, sorry.
-/
import Derived.Test.Qxb6608740aDoorRows
import GoSem.ClaimSeven
namespace Go.Proofs.Qxb6608740aDoor
namespace Rows

/-- THE TIED CARD OF 'zzlaws_internal_timeid_b1.FnParseMarkIsItsGrammar'. -/
def fnParseMarkIsItsGrammarCard : Claim7 := { stood := { row := fnParseMarkIsItsGrammarRow, standIns := [], harness := (true, "3117b08daafdad8ce981d3a1bce0fbaefdd1a6bab61b4b30c9272f97b49eb924"), looks := true }, kinds := [], alts := [], laidByText := true, laidKinds := [.data, .data, .data, .data, .sentinel, .sentinel, .pinned], laidTests := true, laidLooks := .later }
def FnParseMarkIsItsGrammarCardSaid : Prop := Claim7.holds Tryd.pinned (.plain (OpenSpec.ofChange fnParseMarkIsItsGrammarSpec)) fnParseMarkIsItsGrammarCard

/-- THE TIED CARD OF 'zzlaws_internal_timeid_b1.FnParseMarkReadsWhatIsWritten'. -/
def fnParseMarkReadsWhatIsWrittenCard : Claim7 := { stood := { row := fnParseMarkReadsWhatIsWrittenRow, standIns := [], harness := (true, "3117b08daafdad8ce981d3a1bce0fbaefdd1a6bab61b4b30c9272f97b49eb924"), looks := true }, kinds := [], alts := [], laidByText := true, laidKinds := [.data, .data, .data, .data, .sentinel, .sentinel, .pinned], laidTests := true, laidLooks := .later }
def FnParseMarkReadsWhatIsWrittenCardSaid : Prop := Claim7.holds Tryd.pinned (.plain (OpenSpec.ofChange fnParseMarkReadsWhatIsWrittenSpec)) fnParseMarkReadsWhatIsWrittenCard
end Rows
end Go.Proofs.Qxb6608740aDoor

/-
  DERIVED. GIVEN WITH THE SEED: THE CARDS: each row of Qxb6606304aDoorRows.lean that lists a variable, with what it lists TIED to the program's text (the seventh form; the later family's looks); each row that meets fmt, with fmt's text TOLD by the authors' own Lean function (tested against real Go, not proved from fmt's source: count such statements apart). THE CARD IS WHAT COUNTS. Prove the row's statement (the work); the ties are given (Qxb6606304aDoorTie.lean); close each card by the builder's one call (the guide's Derived/Test/ToyasCard.lean, 'card_holds'). Laid BY PROGRAM, IN A SANDBOX (cutbox-door.mjs). By AI agents, Wed Nov 11 2026. No macro, syntax, notation, axiom, sorry.
-/
import Derived.Test.Qxb6606304aDoorRows
import GoSem.ClaimSeven
namespace Go.Proofs.Qxb6606304aDoor
namespace Rows

/-- THE TIED CARD OF 'zzlaws_internal_numtext_b1.FnReadFastPath'. -/
def fnReadFastPathCard : Claim7 := { stood := { row := fnReadFastPathRow, standIns := [], harness := (true, "116414a970ab009f45ddbb56aa1220da90145cbb7dd7110d9b3ece2ddc32c7ec"), looks := true }, kinds := [], alts := [], laidByText := true, laidKinds := [.data, .data, .widerDeep, .widerDeep, .data, .data, .data, .data, .data, .data, .sentinel, .sentinel, .pinned, .pinned, .pinned], laidTests := true, laidLooks := .later }
def FnReadFastPathCardSaid : Prop := Claim7.holds Tryd.pinned (.plain (OpenSpec.ofChange fnReadFastPathSpec)) fnReadFastPathCard

/-- THE TIED CARD OF 'zzlaws_internal_numtext_b1.FnReadNegation'. -/
def fnReadNegationCard : Claim7 := { stood := { row := fnReadNegationRow, standIns := [], harness := (true, "116414a970ab009f45ddbb56aa1220da90145cbb7dd7110d9b3ece2ddc32c7ec"), looks := true }, kinds := [], alts := [], laidByText := true, laidKinds := [.data, .data, .widerDeep, .widerDeep, .data, .data, .data, .data, .data, .data, .sentinel, .sentinel, .pinned, .pinned, .pinned], laidTests := true, laidLooks := .later }
def FnReadNegationCardSaid : Prop := Claim7.holds Tryd.pinned (.plain (OpenSpec.ofChange fnReadNegationSpec)) fnReadNegationCard
end Rows
end Go.Proofs.Qxb6606304aDoor

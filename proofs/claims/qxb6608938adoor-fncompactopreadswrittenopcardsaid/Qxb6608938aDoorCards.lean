/-
  DERIVED. GIVEN WITH THE SEED: THE CARDS: each row of Qxb6608938aDoorRows.lean that lists a variable, with what it lists TIED to the program's text (the seventh form; the later family's looks); each row that meets fmt, with fmt's text TOLD by the authors' own Lean function (tested against real Go, not proved from fmt's source: count such statements apart). THE CARD IS WHAT COUNTS. Prove the row's statement (the work); the ties are given (Qxb6608938aDoorTie.lean); close each card by the builder's one call (the guide's Derived/Test/ToyasCard.lean, 'card_holds'). Laid BY PROGRAM, IN A SANDBOX (cutbox-door.mjs). By AI agents, Wed Nov 11 2026. No macro, syntax, notation, axiom, sorry.
-/
import Derived.Test.Qxb6608938aDoorRows
import GoSem.ClaimSeven
namespace Go.Proofs.Qxb6608938aDoor
namespace Rows

/-- THE TIED CARD OF 'zzlaws_datatype_b1.FnCompactOpMatchesDelimiterModel'. -/
def fnCompactOpMatchesDelimiterModelCard : Claim7 := { stood := { row := fnCompactOpMatchesDelimiterModelRow, standIns := [], harness := (true, "b6ed6d4c5f650d5493d8dccab68aac2779f9db9daa2e578e95ed0328258c4bb3"), looks := false }, kinds := [], alts := [], laidByText := true, laidKinds := [.data, .pinned], laidTests := true, laidLooks := .later }
def FnCompactOpMatchesDelimiterModelCardSaid : Prop := Claim7.holds Tryd.pinned (.plain (OpenSpec.ofChange fnCompactOpMatchesDelimiterModelSpec)) fnCompactOpMatchesDelimiterModelCard

/-- THE TIED CARD OF 'zzlaws_datatype_b1.FnCompactOpReadsWrittenOp'. -/
def fnCompactOpReadsWrittenOpCard : Claim7 := { stood := { row := fnCompactOpReadsWrittenOpRow, standIns := [], harness := (true, "b6ed6d4c5f650d5493d8dccab68aac2779f9db9daa2e578e95ed0328258c4bb3"), looks := false }, kinds := [], alts := [], laidByText := true, laidKinds := [.data, .pinned], laidTests := true, laidLooks := .later }
def FnCompactOpReadsWrittenOpCardSaid : Prop := Claim7.holds Tryd.pinned (.plain (OpenSpec.ofChange fnCompactOpReadsWrittenOpSpec)) fnCompactOpReadsWrittenOpCard
end Rows
end Go.Proofs.Qxb6608938aDoor

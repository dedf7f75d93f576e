/-
  DERIVED. GIVEN WITH THE SEED: THE CARDS: each row of Qxb6603906aDoorRows.lean that lists a variable, with what it lists TIED to the program's text (the seventh form; the later family's looks); each row that meets fmt, with fmt's text TOLD by the authors' own Lean function (tested against real Go, not proved from fmt's source: count such statements apart). THE CARD IS WHAT COUNTS. Prove the row's statement (the work); the ties are given (Qxb6603906aDoorTie.lean); close each card by the builder's one call (the guide's Derived/Test/ToyasCard.lean, 'card_holds'). Laid BY PROGRAM, IN A SANDBOX (cutbox-door.mjs). By AI agents, Wed Nov 11 2026. No macro, syntax, notation, axiom, sorry.
-/
import Derived.Test.Qxb6603906aDoorRows
import GoSem.ClaimSeven
namespace Go.Proofs.Qxb6603906aDoor
namespace Rows

/-- THE TIED CARD OF 'zzlaws_internal_decimal_b1.FnParseMatchesGrammarModel'. -/
def fnParseMatchesGrammarModelCard : Claim7 := { stood := { row := fnParseMatchesGrammarModelRow, standIns := [], harness := (true, "594052b2551727886cef3365ef04a9cf743e8d3fde1242c66bda7b55e9604bcb"), looks := false }, kinds := [], alts := [], laidByText := true, laidKinds := [.data, .pinned], laidTests := true, laidLooks := .later }
def FnParseMatchesGrammarModelCardSaid : Prop := Claim7.holds Tryd.pinned (.plain (OpenSpec.ofChange fnParseMatchesGrammarModelSpec)) fnParseMatchesGrammarModelCard

/-- THE TIED CARD OF 'zzlaws_internal_decimal_b1.FnAppendTextParseRoundTrip'. -/
def fnAppendTextParseRoundTripCard : Claim7 := { stood := { row := fnAppendTextParseRoundTripRow, standIns := [], harness := (true, "594052b2551727886cef3365ef04a9cf743e8d3fde1242c66bda7b55e9604bcb"), looks := false }, kinds := [], alts := [], laidByText := true, laidKinds := [.data, .pinned], laidTests := true, laidLooks := .later }
def FnAppendTextParseRoundTripCardSaid : Prop := Claim7.holds Tryd.pinned (.plain (OpenSpec.ofChange fnAppendTextParseRoundTripSpec)) fnAppendTextParseRoundTripCard
end Rows
end Go.Proofs.Qxb6603906aDoor

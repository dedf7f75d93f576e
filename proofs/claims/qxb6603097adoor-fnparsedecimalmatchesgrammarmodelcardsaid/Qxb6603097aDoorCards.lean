/-
  DERIVED. GIVEN WITH THE SEED: THE CARDS: each row of Qxb6603097aDoorRows.lean that lists a variable, with what it lists TIED to the program's text (the seventh form; the later family's looks); each row that meets fmt, with fmt's text TOLD by the authors' own Lean function (tested against real Go, not proved from fmt's source: count such statements apart). THE CARD IS WHAT COUNTS. Prove the row's statement (the work); the ties are given (Qxb6603097aDoorTie.lean); close each card by the builder's one call (the guide's Derived/Test/ToyasCard.lean, 'card_holds'). Laid BY PROGRAM, IN A SANDBOX (cutbox-door.mjs). By AI agents, Wed Nov 11 2026. No macro, syntax, notation, axiom, sorry.
-/
import Derived.Test.Qxb6603097aDoorRows
import GoSem.ClaimSeven
namespace Go.Proofs.Qxb6603097aDoor
namespace Rows

/-- THE TIED CARD OF 'zzlaws_root_b1.FnParseDecimalMatchesGrammarModel'. -/
def fnParseDecimalMatchesGrammarModelCard : Claim7 := { stood := { row := fnParseDecimalMatchesGrammarModelRow, standIns := [], harness := (true, "bdd8a54654f10944f531b43c3e07fb4e41355de1911560c4e33972c3478b8d0a"), looks := false }, kinds := [], alts := [], laidByText := true, laidKinds := [.data, .pinned], laidTests := true, laidLooks := .later }
def FnParseDecimalMatchesGrammarModelCardSaid : Prop := Claim7.holds Tryd.pinned (.plain (OpenSpec.ofChange fnParseDecimalMatchesGrammarModelSpec)) fnParseDecimalMatchesGrammarModelCard

/-- THE TIED CARD OF 'zzlaws_root_b1.FnParseDecimalCanonicalRoundTrip'. -/
def fnParseDecimalCanonicalRoundTripCard : Claim7 := { stood := { row := fnParseDecimalCanonicalRoundTripRow, standIns := [], harness := (true, "bdd8a54654f10944f531b43c3e07fb4e41355de1911560c4e33972c3478b8d0a"), looks := false }, kinds := [], alts := [], laidByText := true, laidKinds := [.data, .pinned], laidTests := true, laidLooks := .later }
def FnParseDecimalCanonicalRoundTripCardSaid : Prop := Claim7.holds Tryd.pinned (.plain (OpenSpec.ofChange fnParseDecimalCanonicalRoundTripSpec)) fnParseDecimalCanonicalRoundTripCard

/-- THE TIED CARD OF 'zzlaws_root_b1.FnParseDecimalEquivalentSpellings'. -/
def fnParseDecimalEquivalentSpellingsCard : Claim7 := { stood := { row := fnParseDecimalEquivalentSpellingsRow, standIns := [], harness := (true, "bdd8a54654f10944f531b43c3e07fb4e41355de1911560c4e33972c3478b8d0a"), looks := false }, kinds := [], alts := [], laidByText := true, laidKinds := [.data, .pinned], laidTests := true, laidLooks := .later }
def FnParseDecimalEquivalentSpellingsCardSaid : Prop := Claim7.holds Tryd.pinned (.plain (OpenSpec.ofChange fnParseDecimalEquivalentSpellingsSpec)) fnParseDecimalEquivalentSpellingsCard
end Rows
end Go.Proofs.Qxb6603097aDoor

/-
  NARROWER THAN 'FOR EVERY INPUT', by the rows' own cells (each row's printed sentence says how): FnParseDecimalMatchesGrammarModel: laid · FnParseDecimalCanonicalRoundTrip: laid · FnParseDecimalEquivalentSpellings: laid.
  DERIVED. THE GIVEN ROWS OF THIS SEAT. 3 by the template 'for every input the law returns true; each argument reads behind the call as it read before'; 0 by the template 'total and deterministic' (their statements: Qxb6603097aDoorTotals.lean).
  GIVEN WITH THE SEED: the statements are not yours to turn. If you find one false, say at which input.
  Laid BY PROGRAM, IN A SANDBOX (cutbox-rows.mjs): the forced cells as the released guide's own fill.sh prints them over the translation 02029193fc80d577… (all of the seat's roots in one cut). By AI agents, Wed Nov 11 2026. No macro, syntax, notation, axiom, sorry.
-/
import Derived.Test.Qxb6603097aDoorChecked
import GoSem.PinnedTables
import GoSem.Claim
import GoSem.ClaimJoined
import GoSem.ClaimMapViews
import Derived.JoinedTies
import Derived.KernelRfl
namespace Go.Proofs.Qxb6603097aDoor
/- THE CELL 'sum', in the pinned program and in every row, IS THE sha256 OF THE DUMP (.gsa) THAT Qxb6603097aDoorProg.lean LOADS. Nothing in Lean hashes anything: it is a label: what it is worth is what the hold of that sum in a sandbox is worth. -/
noncomputable def Tryd.pinned : Pinned := { name := "qxb6603097adoor", sum := "02029193fc80d577e1e22d7bd5662951a78d56970bcd945d3cf777257c7eb660", checked := Tryd.checked }
namespace Rows
def none {H : Type} : Left H := { results := [], args := [] }

/- WHAT THE LISTED PACKAGE-LEVEL VARIABLES READ AS WHEN THE CALL BEGINS. Each datum BY PROGRAM (the guide's laid-datum.mjs) off the statement by which the dump's own 'gosem.cut.vars' lays the variable. In a bare row this is a premise. The card (Qxb6603097aDoorCards.lean) ties it to the program's text. -/
def laid_unicode_utf8_acceptRanges {H : Type} : DataW H := .agg [.agg [.lit (.int .u8 128), .lit (.int .u8 191)], .agg [.lit (.int .u8 160), .lit (.int .u8 191)], .agg [.lit (.int .u8 128), .lit (.int .u8 159)], .agg [.lit (.int .u8 144), .lit (.int .u8 191)], .agg [.lit (.int .u8 128), .lit (.int .u8 143)], .agg [.lit (.int .u8 0), .lit (.int .u8 0)], .agg [.lit (.int .u8 0), .lit (.int .u8 0)], .agg [.lit (.int .u8 0), .lit (.int .u8 0)], .agg [.lit (.int .u8 0), .lit (.int .u8 0)], .agg [.lit (.int .u8 0), .lit (.int .u8 0)], .agg [.lit (.int .u8 0), .lit (.int .u8 0)], .agg [.lit (.int .u8 0), .lit (.int .u8 0)], .agg [.lit (.int .u8 0), .lit (.int .u8 0)], .agg [.lit (.int .u8 0), .lit (.int .u8 0)], .agg [.lit (.int .u8 0), .lit (.int .u8 0)], .agg [.lit (.int .u8 0), .lit (.int .u8 0)]]
/-- One of Go's own tables, pinned by name: the form's constant. -/
def laid_unicode_utf8_first : DataW Unit := Go.Pinned.utf8First

/-- 'zzlaws_root_b1.FnParseDecimalMatchesGrammarModel': WHATEVER THE INPUT: true; the input reads as it did. -/
def fnParseDecimalMatchesGrammarModelSpec : ChangeSpec := { name := "fnParseDecimalMatchesGrammarModel", fn := fun _ => fun
  | [d] => { results := [.lit (.bool true)], args := [d] }
  | _ => none }
def fnParseDecimalMatchesGrammarModelRow : OpenClaim := { program := "qxb6603097adoor", sum := "02029193fc80d577e1e22d7bd5662951a78d56970bcd945d3cf777257c7eb660", func := "example.com/isimud/isimud/zzlaws_root_b1.FnParseDecimalMatchesGrammarModel", spec := "fnParseDecimalMatchesGrammarModel", inPlace := ["internal/bytealg.IndexByteString", "internal/bytealg.IndexString"], named := ["internal/bytealg.MaxLen", "unicode/utf8.first", "unicode/utf8.acceptRanges"], apart := false, laid := [("unicode/utf8.acceptRanges", laid_unicode_utf8_acceptRanges), ("unicode/utf8.first", laid_unicode_utf8_first)] }
def FnParseDecimalMatchesGrammarModelSaid : Prop := fnParseDecimalMatchesGrammarModelRow.holds Tryd.pinned (OpenSpec.ofChange fnParseDecimalMatchesGrammarModelSpec)

/-- ITS FALSE NEIGHBOUR: 'it returns false'. Refute it at one input. -/
def fnParseDecimalMatchesGrammarModelWrong : ChangeSpec := { name := "fnParseDecimalMatchesGrammarModel", fn := fun _ => fun
  | [d] => { results := [.lit (.bool false)], args := [d] }
  | _ => none }
def FnParseDecimalMatchesGrammarModelWrongFalsely : Prop := fnParseDecimalMatchesGrammarModelRow.holds Tryd.pinned (OpenSpec.ofChange fnParseDecimalMatchesGrammarModelWrong)

/-- 'zzlaws_root_b1.FnParseDecimalCanonicalRoundTrip': WHATEVER THE INPUT: true; the input reads as it did. -/
def fnParseDecimalCanonicalRoundTripSpec : ChangeSpec := { name := "fnParseDecimalCanonicalRoundTrip", fn := fun _ => fun
  | [d] => { results := [.lit (.bool true)], args := [d] }
  | _ => none }
def fnParseDecimalCanonicalRoundTripRow : OpenClaim := { program := "qxb6603097adoor", sum := "02029193fc80d577e1e22d7bd5662951a78d56970bcd945d3cf777257c7eb660", func := "example.com/isimud/isimud/zzlaws_root_b1.FnParseDecimalCanonicalRoundTrip", spec := "fnParseDecimalCanonicalRoundTrip", inPlace := ["internal/bytealg.IndexByteString", "internal/bytealg.IndexString"], named := ["internal/bytealg.MaxLen", "unicode/utf8.first", "unicode/utf8.acceptRanges"], apart := false, laid := [("unicode/utf8.acceptRanges", laid_unicode_utf8_acceptRanges), ("unicode/utf8.first", laid_unicode_utf8_first)] }
def FnParseDecimalCanonicalRoundTripSaid : Prop := fnParseDecimalCanonicalRoundTripRow.holds Tryd.pinned (OpenSpec.ofChange fnParseDecimalCanonicalRoundTripSpec)

/-- ITS FALSE NEIGHBOUR: 'it returns false'. Refute it at one input. -/
def fnParseDecimalCanonicalRoundTripWrong : ChangeSpec := { name := "fnParseDecimalCanonicalRoundTrip", fn := fun _ => fun
  | [d] => { results := [.lit (.bool false)], args := [d] }
  | _ => none }
def FnParseDecimalCanonicalRoundTripWrongFalsely : Prop := fnParseDecimalCanonicalRoundTripRow.holds Tryd.pinned (OpenSpec.ofChange fnParseDecimalCanonicalRoundTripWrong)

/-- 'zzlaws_root_b1.FnParseDecimalEquivalentSpellings': WHATEVER THE INPUT: true; the input reads as it did. -/
def fnParseDecimalEquivalentSpellingsSpec : ChangeSpec := { name := "fnParseDecimalEquivalentSpellings", fn := fun _ => fun
  | [d] => { results := [.lit (.bool true)], args := [d] }
  | _ => none }
def fnParseDecimalEquivalentSpellingsRow : OpenClaim := { program := "qxb6603097adoor", sum := "02029193fc80d577e1e22d7bd5662951a78d56970bcd945d3cf777257c7eb660", func := "example.com/isimud/isimud/zzlaws_root_b1.FnParseDecimalEquivalentSpellings", spec := "fnParseDecimalEquivalentSpellings", inPlace := ["internal/bytealg.IndexByteString", "internal/bytealg.IndexString"], named := ["internal/bytealg.MaxLen", "unicode/utf8.first", "unicode/utf8.acceptRanges"], apart := false, laid := [("unicode/utf8.acceptRanges", laid_unicode_utf8_acceptRanges), ("unicode/utf8.first", laid_unicode_utf8_first)] }
def FnParseDecimalEquivalentSpellingsSaid : Prop := fnParseDecimalEquivalentSpellingsRow.holds Tryd.pinned (OpenSpec.ofChange fnParseDecimalEquivalentSpellingsSpec)

/-- ITS FALSE NEIGHBOUR: 'it returns false'. Refute it at one input. -/
def fnParseDecimalEquivalentSpellingsWrong : ChangeSpec := { name := "fnParseDecimalEquivalentSpellings", fn := fun _ => fun
  | [d] => { results := [.lit (.bool false)], args := [d] }
  | _ => none }
def FnParseDecimalEquivalentSpellingsWrongFalsely : Prop := fnParseDecimalEquivalentSpellingsRow.holds Tryd.pinned (OpenSpec.ofChange fnParseDecimalEquivalentSpellingsWrong)

end Rows
end Go.Proofs.Qxb6603097aDoor

/-
  NARROWER THAN 'FOR EVERY INPUT', by the rows' own cells (each row's printed sentence says how): FnParseMatchesGrammarModel: laid · FnAppendTextParseRoundTrip: laid.
  DERIVED. THE GIVEN ROWS OF THIS SEAT. 2 by the template 'for every input the law returns true; each argument reads behind the call as it read before'; 0 by the template 'total and deterministic' (their statements: Qxb6603906aDoorTotals.lean).
  GIVEN WITH THE SEED: the statements are not yours to turn. If you find one false, say at which input.
  Laid BY PROGRAM, IN A SANDBOX (cutbox-rows.mjs): the forced cells as the released guide's own fill.sh prints them over the translation af8ff0086ab0a409… (all of the seat's roots in one cut). By AI agents, Wed Nov 11 2026. No macro, syntax, notation, axiom, sorry.
-/
import Derived.Test.Qxb6603906aDoorChecked
import GoSem.PinnedTables
import GoSem.Claim
import GoSem.ClaimJoined
import GoSem.ClaimMapViews
import Derived.JoinedTies
import Derived.KernelRfl
namespace Go.Proofs.Qxb6603906aDoor
/- THE CELL 'sum', in the pinned program and in every row, IS THE sha256 OF THE DUMP (.gsa) THAT Qxb6603906aDoorProg.lean LOADS. Nothing in Lean hashes anything: it is a label: what it is worth is what the hold of that sum in a sandbox is worth. -/
noncomputable def Tryd.pinned : Pinned := { name := "qxb6603906adoor", sum := "af8ff0086ab0a409c4a408470ea53a2ea5152d9b08b62c3714f7159602ae5af7", checked := Tryd.checked }
namespace Rows
def none {H : Type} : Left H := { results := [], args := [] }

/- WHAT THE LISTED PACKAGE-LEVEL VARIABLES READ AS WHEN THE CALL BEGINS. Each datum BY PROGRAM (the guide's laid-datum.mjs) off the statement by which the dump's own 'gosem.cut.vars' lays the variable. In a bare row this is a premise. The card (Qxb6603906aDoorCards.lean) ties it to the program's text. -/
def laid_unicode_utf8_acceptRanges {H : Type} : DataW H := .agg [.agg [.lit (.int .u8 128), .lit (.int .u8 191)], .agg [.lit (.int .u8 160), .lit (.int .u8 191)], .agg [.lit (.int .u8 128), .lit (.int .u8 159)], .agg [.lit (.int .u8 144), .lit (.int .u8 191)], .agg [.lit (.int .u8 128), .lit (.int .u8 143)], .agg [.lit (.int .u8 0), .lit (.int .u8 0)], .agg [.lit (.int .u8 0), .lit (.int .u8 0)], .agg [.lit (.int .u8 0), .lit (.int .u8 0)], .agg [.lit (.int .u8 0), .lit (.int .u8 0)], .agg [.lit (.int .u8 0), .lit (.int .u8 0)], .agg [.lit (.int .u8 0), .lit (.int .u8 0)], .agg [.lit (.int .u8 0), .lit (.int .u8 0)], .agg [.lit (.int .u8 0), .lit (.int .u8 0)], .agg [.lit (.int .u8 0), .lit (.int .u8 0)], .agg [.lit (.int .u8 0), .lit (.int .u8 0)], .agg [.lit (.int .u8 0), .lit (.int .u8 0)]]
/-- One of Go's own tables, pinned by name: the form's constant. -/
def laid_unicode_utf8_first : DataW Unit := Go.Pinned.utf8First

/-- 'zzlaws_internal_decimal_b1.FnParseMatchesGrammarModel': WHATEVER THE INPUT: true; the input reads as it did. -/
def fnParseMatchesGrammarModelSpec : ChangeSpec := { name := "fnParseMatchesGrammarModel", fn := fun _ => fun
  | [d] => { results := [.lit (.bool true)], args := [d] }
  | _ => none }
def fnParseMatchesGrammarModelRow : OpenClaim := { program := "qxb6603906adoor", sum := "af8ff0086ab0a409c4a408470ea53a2ea5152d9b08b62c3714f7159602ae5af7", func := "example.com/threadline/threadline/zzlaws_internal_decimal_b1.FnParseMatchesGrammarModel", spec := "fnParseMatchesGrammarModel", inPlace := ["internal/bytealg.IndexByteString", "internal/bytealg.IndexString"], named := ["unicode/utf8.first", "unicode/utf8.acceptRanges", "internal/bytealg.MaxLen"], apart := false, laid := [("unicode/utf8.acceptRanges", laid_unicode_utf8_acceptRanges), ("unicode/utf8.first", laid_unicode_utf8_first)] }
def FnParseMatchesGrammarModelSaid : Prop := fnParseMatchesGrammarModelRow.holds Tryd.pinned (OpenSpec.ofChange fnParseMatchesGrammarModelSpec)

/-- ITS FALSE NEIGHBOUR: 'it returns false'. Refute it at one input. -/
def fnParseMatchesGrammarModelWrong : ChangeSpec := { name := "fnParseMatchesGrammarModel", fn := fun _ => fun
  | [d] => { results := [.lit (.bool false)], args := [d] }
  | _ => none }
def FnParseMatchesGrammarModelWrongFalsely : Prop := fnParseMatchesGrammarModelRow.holds Tryd.pinned (OpenSpec.ofChange fnParseMatchesGrammarModelWrong)

/-- 'zzlaws_internal_decimal_b1.FnAppendTextParseRoundTrip': WHATEVER THE INPUT: true; the input reads as it did. -/
def fnAppendTextParseRoundTripSpec : ChangeSpec := { name := "fnAppendTextParseRoundTrip", fn := fun _ => fun
  | [d1, d2, d3] => { results := [.lit (.bool true)], args := [d1, d2, d3] }
  | _ => none }
def fnAppendTextParseRoundTripRow : OpenClaim := { program := "qxb6603906adoor", sum := "af8ff0086ab0a409c4a408470ea53a2ea5152d9b08b62c3714f7159602ae5af7", func := "example.com/threadline/threadline/zzlaws_internal_decimal_b1.FnAppendTextParseRoundTrip", spec := "fnAppendTextParseRoundTrip", inPlace := ["internal/bytealg.IndexByteString", "internal/bytealg.IndexString"], named := ["unicode/utf8.first", "unicode/utf8.acceptRanges", "internal/bytealg.MaxLen"], apart := false, laid := [("unicode/utf8.acceptRanges", laid_unicode_utf8_acceptRanges), ("unicode/utf8.first", laid_unicode_utf8_first)] }
def FnAppendTextParseRoundTripSaid : Prop := fnAppendTextParseRoundTripRow.holds Tryd.pinned (OpenSpec.ofChange fnAppendTextParseRoundTripSpec)

/-- ITS FALSE NEIGHBOUR: 'it returns false'. Refute it at one input. -/
def fnAppendTextParseRoundTripWrong : ChangeSpec := { name := "fnAppendTextParseRoundTrip", fn := fun _ => fun
  | [d1, d2, d3] => { results := [.lit (.bool false)], args := [d1, d2, d3] }
  | _ => none }
def FnAppendTextParseRoundTripWrongFalsely : Prop := fnAppendTextParseRoundTripRow.holds Tryd.pinned (OpenSpec.ofChange fnAppendTextParseRoundTripWrong)

end Rows
end Go.Proofs.Qxb6603906aDoor

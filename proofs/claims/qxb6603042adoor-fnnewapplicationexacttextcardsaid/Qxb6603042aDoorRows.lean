/-
  NARROWER THAN 'FOR EVERY INPUT', by the rows' own cells (each row's printed sentence says how): FnNewApplicationExactText: laid · FnNewApplicationLikeAFreshBlockCopiesItsStatements: laid.
  DERIVED. THE GIVEN ROWS OF THIS SEAT. 2 by the template 'for every input the law returns true; each argument reads behind the call as it read before'; 0 by the template 'total and deterministic' (their statements: Qxb6603042aDoorTotals.lean).
  GIVEN WITH THE SEED: the statements are not yours to turn. If you find one false, say at which input.
  Laid BY PROGRAM, IN A SANDBOX (cutbox-rows.mjs): the forced cells as the released guide's own fill.sh prints them over the translation 98e24a4093129122… (all of the seat's roots in one cut). By AI agents, Wed Nov 11 2026. No macro, syntax, notation, axiom, sorry.
-/
import Derived.Test.Qxb6603042aDoorChecked
import GoSem.PinnedTables
import GoSem.Claim
import GoSem.ClaimJoined
import GoSem.ClaimMapViews
import Derived.JoinedTies
import Derived.KernelRfl
namespace Go.Proofs.Qxb6603042aDoor
/- THE CELL 'sum', in the pinned program and in every row, IS THE sha256 OF THE DUMP (.gsa) THAT Qxb6603042aDoorProg.lean LOADS. Nothing in Lean hashes anything: it is a label: what it is worth is what the hold of that sum in a sandbox is worth. -/
noncomputable def Tryd.pinned : Pinned := { name := "qxb6603042adoor", sum := "98e24a40931291224642117065fb8a28c7dac342ae8f99e1f7435eba7625267d", checked := Tryd.checked }
namespace Rows
def none {H : Type} : Left H := { results := [], args := [] }

/- WHAT THE LISTED PACKAGE-LEVEL VARIABLES READ AS WHEN THE CALL BEGINS. Each datum BY PROGRAM (the guide's laid-datum.mjs) off the statement by which the dump's own 'gosem.cut.vars' lays the variable. In a bare row this is a premise. The card (Qxb6603042aDoorCards.lean) ties it to the program's text. -/
def laid_unicode_utf8_acceptRanges {H : Type} : DataW H := .agg [.agg [.lit (.int .u8 128), .lit (.int .u8 191)], .agg [.lit (.int .u8 160), .lit (.int .u8 191)], .agg [.lit (.int .u8 128), .lit (.int .u8 159)], .agg [.lit (.int .u8 144), .lit (.int .u8 191)], .agg [.lit (.int .u8 128), .lit (.int .u8 143)], .agg [.lit (.int .u8 0), .lit (.int .u8 0)], .agg [.lit (.int .u8 0), .lit (.int .u8 0)], .agg [.lit (.int .u8 0), .lit (.int .u8 0)], .agg [.lit (.int .u8 0), .lit (.int .u8 0)], .agg [.lit (.int .u8 0), .lit (.int .u8 0)], .agg [.lit (.int .u8 0), .lit (.int .u8 0)], .agg [.lit (.int .u8 0), .lit (.int .u8 0)], .agg [.lit (.int .u8 0), .lit (.int .u8 0)], .agg [.lit (.int .u8 0), .lit (.int .u8 0)], .agg [.lit (.int .u8 0), .lit (.int .u8 0)], .agg [.lit (.int .u8 0), .lit (.int .u8 0)]]
/-- One of Go's own tables, pinned by name: the form's constant. -/
def laid_unicode_utf8_first : DataW Unit := Go.Pinned.utf8First

/-- 'zzlaws_internal_policy_b1.FnNewApplicationExactText': WHATEVER THE INPUT: true; the input reads as it did. -/
def fnNewApplicationExactTextSpec : ChangeSpec := { name := "fnNewApplicationExactText", fn := fun _ => fun
  | [d1, d2, d3, d4, d5, d6, d7, d8, d9] => { results := [.lit (.bool true)], args := [d1, d2, d3, d4, d5, d6, d7, d8, d9] }
  | _ => none }
def fnNewApplicationExactTextRow : OpenClaim := { program := "qxb6603042adoor", sum := "98e24a40931291224642117065fb8a28c7dac342ae8f99e1f7435eba7625267d", func := "example.com/mlinzi/mlinzi/zzlaws_internal_policy_b1.FnNewApplicationExactText", spec := "fnNewApplicationExactText", inPlace := ["internal/bytealg.IndexByteString", "internal/bytealg.IndexString", "internal/abi.NoEscape", "internal/bytealg.CountString", "internal/bytealg.MakeNoZero"], named := ["unicode/utf8.first", "unicode/utf8.acceptRanges", "internal/bytealg.MaxLen"], apart := false, laid := [("unicode/utf8.acceptRanges", laid_unicode_utf8_acceptRanges), ("unicode/utf8.first", laid_unicode_utf8_first)] }
def FnNewApplicationExactTextSaid : Prop := fnNewApplicationExactTextRow.holds Tryd.pinned (OpenSpec.ofChange fnNewApplicationExactTextSpec)

/-- ITS FALSE NEIGHBOUR: 'it returns false'. Refute it at one input. -/
def fnNewApplicationExactTextWrong : ChangeSpec := { name := "fnNewApplicationExactText", fn := fun _ => fun
  | [d1, d2, d3, d4, d5, d6, d7, d8, d9] => { results := [.lit (.bool false)], args := [d1, d2, d3, d4, d5, d6, d7, d8, d9] }
  | _ => none }
def FnNewApplicationExactTextWrongFalsely : Prop := fnNewApplicationExactTextRow.holds Tryd.pinned (OpenSpec.ofChange fnNewApplicationExactTextWrong)

/-- 'zzlaws_internal_policy_b1.FnNewApplicationLikeAFreshBlockCopiesItsStatements': WHATEVER THE INPUT: true; the input reads as it did. -/
def fnNewApplicationLikeAFreshBlockCopiesItsStatementsSpec : ChangeSpec := { name := "fnNewApplicationLikeAFreshBlockCopiesItsStatements", fn := fun _ => fun
  | [d1, d2, d3, d4, d5, d6, d7] => { results := [.lit (.bool true)], args := [d1, d2, d3, d4, d5, d6, d7] }
  | _ => none }
def fnNewApplicationLikeAFreshBlockCopiesItsStatementsRow : OpenClaim := { program := "qxb6603042adoor", sum := "98e24a40931291224642117065fb8a28c7dac342ae8f99e1f7435eba7625267d", func := "example.com/mlinzi/mlinzi/zzlaws_internal_policy_b1.FnNewApplicationLikeAFreshBlockCopiesItsStatements", spec := "fnNewApplicationLikeAFreshBlockCopiesItsStatements", inPlace := ["internal/bytealg.IndexByteString", "internal/bytealg.IndexString", "internal/abi.NoEscape", "internal/bytealg.CountString", "internal/bytealg.MakeNoZero"], named := ["unicode/utf8.first", "unicode/utf8.acceptRanges", "internal/bytealg.MaxLen"], apart := false, laid := [("unicode/utf8.acceptRanges", laid_unicode_utf8_acceptRanges), ("unicode/utf8.first", laid_unicode_utf8_first)] }
def FnNewApplicationLikeAFreshBlockCopiesItsStatementsSaid : Prop := fnNewApplicationLikeAFreshBlockCopiesItsStatementsRow.holds Tryd.pinned (OpenSpec.ofChange fnNewApplicationLikeAFreshBlockCopiesItsStatementsSpec)

/-- ITS FALSE NEIGHBOUR: 'it returns false'. Refute it at one input. -/
def fnNewApplicationLikeAFreshBlockCopiesItsStatementsWrong : ChangeSpec := { name := "fnNewApplicationLikeAFreshBlockCopiesItsStatements", fn := fun _ => fun
  | [d1, d2, d3, d4, d5, d6, d7] => { results := [.lit (.bool false)], args := [d1, d2, d3, d4, d5, d6, d7] }
  | _ => none }
def FnNewApplicationLikeAFreshBlockCopiesItsStatementsWrongFalsely : Prop := fnNewApplicationLikeAFreshBlockCopiesItsStatementsRow.holds Tryd.pinned (OpenSpec.ofChange fnNewApplicationLikeAFreshBlockCopiesItsStatementsWrong)

end Rows
end Go.Proofs.Qxb6603042aDoor

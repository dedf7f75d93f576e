/-
  NARROWER THAN 'FOR EVERY INPUT', by the rows' own cells (each row's printed sentence says how): FnSplitJoinsBackToList: laid · FnSplitDistributesOverComma: laid · FnSplitFileAgreesWithSplitOnPlainNodes: laid.
  DERIVED. THE GIVEN ROWS OF THIS SEAT. 3 by the template 'for every input the law returns true; each argument reads behind the call as it read before'; 0 by the template 'total and deterministic' (their statements: Qxb6603774aDoorTotals.lean).
  GIVEN WITH THE SEED: the statements are not yours to turn. If you find one false, say at which input.
  Laid BY PROGRAM, IN A SANDBOX (cutbox-rows.mjs): the forced cells as the released guide's own fill.sh prints them over the translation ba106c83ea231356… (all of the seat's roots in one cut). By AI agents, Wed Nov 11 2026. No macro, syntax, notation, axiom, sorry.
-/
import Derived.Test.Qxb6603774aDoorChecked
import GoSem.PinnedTables
import GoSem.Claim
import GoSem.ClaimJoined
import GoSem.ClaimMapViews
import Derived.JoinedTies
import Derived.KernelRfl
namespace Go.Proofs.Qxb6603774aDoor
/- THE CELL 'sum', in the pinned program and in every row, IS THE sha256 OF THE DUMP (.gsa) THAT Qxb6603774aDoorProg.lean LOADS. Nothing in Lean hashes anything: it is a label: what it is worth is what the hold of that sum in a sandbox is worth. -/
noncomputable def Tryd.pinned : Pinned := { name := "qxb6603774adoor", sum := "ba106c83ea231356e94b18d00feee8a586c663b7235b97fbc4468ea336282780", checked := Tryd.checked }
namespace Rows
def none {H : Type} : Left H := { results := [], args := [] }

/- WHAT THE LISTED PACKAGE-LEVEL VARIABLES READ AS WHEN THE CALL BEGINS. Each datum BY PROGRAM (the guide's laid-datum.mjs) off the statement by which the dump's own 'gosem.cut.vars' lays the variable. In a bare row this is a premise. The card (Qxb6603774aDoorCards.lean) ties it to the program's text. -/
def laid_unicode_utf8_acceptRanges {H : Type} : DataW H := .agg [.agg [.lit (.int .u8 128), .lit (.int .u8 191)], .agg [.lit (.int .u8 160), .lit (.int .u8 191)], .agg [.lit (.int .u8 128), .lit (.int .u8 159)], .agg [.lit (.int .u8 144), .lit (.int .u8 191)], .agg [.lit (.int .u8 128), .lit (.int .u8 143)], .agg [.lit (.int .u8 0), .lit (.int .u8 0)], .agg [.lit (.int .u8 0), .lit (.int .u8 0)], .agg [.lit (.int .u8 0), .lit (.int .u8 0)], .agg [.lit (.int .u8 0), .lit (.int .u8 0)], .agg [.lit (.int .u8 0), .lit (.int .u8 0)], .agg [.lit (.int .u8 0), .lit (.int .u8 0)], .agg [.lit (.int .u8 0), .lit (.int .u8 0)], .agg [.lit (.int .u8 0), .lit (.int .u8 0)], .agg [.lit (.int .u8 0), .lit (.int .u8 0)], .agg [.lit (.int .u8 0), .lit (.int .u8 0)], .agg [.lit (.int .u8 0), .lit (.int .u8 0)]]
/-- One of Go's own tables, pinned by name: the form's constant. -/
def laid_unicode_utf8_first : DataW Unit := Go.Pinned.utf8First

/-- 'zzlaws_internal_nodelist_b1.FnSplitJoinsBackToList': WHATEVER THE INPUT: true; the input reads as it did. -/
def fnSplitJoinsBackToListSpec : ChangeSpec := { name := "fnSplitJoinsBackToList", fn := fun _ => fun
  | [d] => { results := [.lit (.bool true)], args := [d] }
  | _ => none }
def fnSplitJoinsBackToListRow : OpenClaim := { program := "qxb6603774adoor", sum := "ba106c83ea231356e94b18d00feee8a586c663b7235b97fbc4468ea336282780", func := "example.com/tryst/tryst/zzlaws_internal_nodelist_b1.FnSplitJoinsBackToList", spec := "fnSplitJoinsBackToList", inPlace := ["internal/bytealg.CountString", "internal/bytealg.IndexByteString", "internal/bytealg.IndexString"], named := ["unicode/utf8.first", "unicode/utf8.acceptRanges", "internal/bytealg.MaxLen"], apart := false, laid := [("unicode/utf8.acceptRanges", laid_unicode_utf8_acceptRanges), ("unicode/utf8.first", laid_unicode_utf8_first)] }
def FnSplitJoinsBackToListSaid : Prop := fnSplitJoinsBackToListRow.holds Tryd.pinned (OpenSpec.ofChange fnSplitJoinsBackToListSpec)

/-- ITS FALSE NEIGHBOUR: 'it returns false'. Refute it at one input. -/
def fnSplitJoinsBackToListWrong : ChangeSpec := { name := "fnSplitJoinsBackToList", fn := fun _ => fun
  | [d] => { results := [.lit (.bool false)], args := [d] }
  | _ => none }
def FnSplitJoinsBackToListWrongFalsely : Prop := fnSplitJoinsBackToListRow.holds Tryd.pinned (OpenSpec.ofChange fnSplitJoinsBackToListWrong)

/-- 'zzlaws_internal_nodelist_b1.FnSplitDistributesOverComma': WHATEVER THE INPUT: true; the input reads as it did. -/
def fnSplitDistributesOverCommaSpec : ChangeSpec := { name := "fnSplitDistributesOverComma", fn := fun _ => fun
  | [d1, d2] => { results := [.lit (.bool true)], args := [d1, d2] }
  | _ => none }
def fnSplitDistributesOverCommaRow : OpenClaim := { program := "qxb6603774adoor", sum := "ba106c83ea231356e94b18d00feee8a586c663b7235b97fbc4468ea336282780", func := "example.com/tryst/tryst/zzlaws_internal_nodelist_b1.FnSplitDistributesOverComma", spec := "fnSplitDistributesOverComma", inPlace := ["internal/bytealg.CountString", "internal/bytealg.IndexByteString", "internal/bytealg.IndexString"], named := ["unicode/utf8.first", "unicode/utf8.acceptRanges", "internal/bytealg.MaxLen"], apart := false, laid := [("unicode/utf8.acceptRanges", laid_unicode_utf8_acceptRanges), ("unicode/utf8.first", laid_unicode_utf8_first)] }
def FnSplitDistributesOverCommaSaid : Prop := fnSplitDistributesOverCommaRow.holds Tryd.pinned (OpenSpec.ofChange fnSplitDistributesOverCommaSpec)

/-- ITS FALSE NEIGHBOUR: 'it returns false'. Refute it at one input. -/
def fnSplitDistributesOverCommaWrong : ChangeSpec := { name := "fnSplitDistributesOverComma", fn := fun _ => fun
  | [d1, d2] => { results := [.lit (.bool false)], args := [d1, d2] }
  | _ => none }
def FnSplitDistributesOverCommaWrongFalsely : Prop := fnSplitDistributesOverCommaRow.holds Tryd.pinned (OpenSpec.ofChange fnSplitDistributesOverCommaWrong)

/-- 'zzlaws_internal_nodelist_b1.FnSplitFileAgreesWithSplitOnPlainNodes': WHATEVER THE INPUT: true; the input reads as it did. -/
def fnSplitFileAgreesWithSplitOnPlainNodesSpec : ChangeSpec := { name := "fnSplitFileAgreesWithSplitOnPlainNodes", fn := fun _ => fun
  | [d] => { results := [.lit (.bool true)], args := [d] }
  | _ => none }
def fnSplitFileAgreesWithSplitOnPlainNodesRow : OpenClaim := { program := "qxb6603774adoor", sum := "ba106c83ea231356e94b18d00feee8a586c663b7235b97fbc4468ea336282780", func := "example.com/tryst/tryst/zzlaws_internal_nodelist_b1.FnSplitFileAgreesWithSplitOnPlainNodes", spec := "fnSplitFileAgreesWithSplitOnPlainNodes", inPlace := ["internal/bytealg.IndexByteString", "internal/bytealg.IndexString", "internal/bytealg.CountString"], unfollowed := true, recurses := true, named := ["unicode/utf8.first", "unicode/utf8.acceptRanges", "internal/bytealg.MaxLen"], apart := false, laid := [("unicode/utf8.acceptRanges", laid_unicode_utf8_acceptRanges), ("unicode/utf8.first", laid_unicode_utf8_first)] }
def FnSplitFileAgreesWithSplitOnPlainNodesSaid : Prop := fnSplitFileAgreesWithSplitOnPlainNodesRow.holds Tryd.pinned (OpenSpec.ofChange fnSplitFileAgreesWithSplitOnPlainNodesSpec)

/-- ITS FALSE NEIGHBOUR: 'it returns false'. Refute it at one input. -/
def fnSplitFileAgreesWithSplitOnPlainNodesWrong : ChangeSpec := { name := "fnSplitFileAgreesWithSplitOnPlainNodes", fn := fun _ => fun
  | [d] => { results := [.lit (.bool false)], args := [d] }
  | _ => none }
def FnSplitFileAgreesWithSplitOnPlainNodesWrongFalsely : Prop := fnSplitFileAgreesWithSplitOnPlainNodesRow.holds Tryd.pinned (OpenSpec.ofChange fnSplitFileAgreesWithSplitOnPlainNodesWrong)

end Rows
end Go.Proofs.Qxb6603774aDoor

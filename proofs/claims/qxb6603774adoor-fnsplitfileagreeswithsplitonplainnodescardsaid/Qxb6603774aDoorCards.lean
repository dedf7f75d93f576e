/-
  DERIVED. GIVEN WITH THE SEED: THE CARDS: each row of Qxb6603774aDoorRows.lean that lists a variable, with what it lists TIED to the program's text (the seventh form; the later family's looks); each row that meets fmt, with fmt's text TOLD by the authors' own Lean function (tested against real Go, not proved from fmt's source: count such statements apart). THE CARD IS WHAT COUNTS. Prove the row's statement (the work); the ties are given (Qxb6603774aDoorTie.lean); close each card by the builder's one call (the guide's Derived/Test/ToyasCard.lean, 'card_holds'). Laid BY PROGRAM, IN A SANDBOX (cutbox-door.mjs). By AI agents, Wed Nov 11 2026. No macro, syntax, notation, axiom, sorry.
-/
import Derived.Test.Qxb6603774aDoorRows
import GoSem.ClaimSeven
namespace Go.Proofs.Qxb6603774aDoor
namespace Rows

/-- THE TIED CARD OF 'zzlaws_internal_nodelist_b1.FnSplitJoinsBackToList'. -/
def fnSplitJoinsBackToListCard : Claim7 := { stood := { row := fnSplitJoinsBackToListRow, standIns := [], harness := (true, "29759c293c4fd508f5148d4be0370f597d4db6458de136c245f990d06842c241"), looks := false }, kinds := [], alts := [], laidByText := true, laidKinds := [.data, .pinned], laidTests := true, laidLooks := .later }
def FnSplitJoinsBackToListCardSaid : Prop := Claim7.holds Tryd.pinned (.plain (OpenSpec.ofChange fnSplitJoinsBackToListSpec)) fnSplitJoinsBackToListCard

/-- THE TIED CARD OF 'zzlaws_internal_nodelist_b1.FnSplitDistributesOverComma'. -/
def fnSplitDistributesOverCommaCard : Claim7 := { stood := { row := fnSplitDistributesOverCommaRow, standIns := [], harness := (true, "29759c293c4fd508f5148d4be0370f597d4db6458de136c245f990d06842c241"), looks := false }, kinds := [], alts := [], laidByText := true, laidKinds := [.data, .pinned], laidTests := true, laidLooks := .later }
def FnSplitDistributesOverCommaCardSaid : Prop := Claim7.holds Tryd.pinned (.plain (OpenSpec.ofChange fnSplitDistributesOverCommaSpec)) fnSplitDistributesOverCommaCard

/-- THE TIED CARD OF 'zzlaws_internal_nodelist_b1.FnSplitFileAgreesWithSplitOnPlainNodes'. -/
def fnSplitFileAgreesWithSplitOnPlainNodesCard : Claim7 := { stood := { row := fnSplitFileAgreesWithSplitOnPlainNodesRow, standIns := [], harness := (true, "29759c293c4fd508f5148d4be0370f597d4db6458de136c245f990d06842c241"), looks := false }, kinds := [], alts := [], laidByText := true, laidKinds := [.data, .pinned], laidTests := true, laidLooks := .later }
def FnSplitFileAgreesWithSplitOnPlainNodesCardSaid : Prop := Claim7.holds Tryd.pinned (.plain (OpenSpec.ofChange fnSplitFileAgreesWithSplitOnPlainNodesSpec)) fnSplitFileAgreesWithSplitOnPlainNodesCard
end Rows
end Go.Proofs.Qxb6603774aDoor

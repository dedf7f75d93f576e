/-
  DERIVED. GIVEN WITH THE SEED: THE CARDS: each row of Qxb6603042aDoorRows.lean that lists a variable, with what it lists TIED to the program's text (the seventh form; the later family's looks); each row that meets fmt, with fmt's text TOLD by the authors' own Lean function (tested against real Go, not proved from fmt's source: count such statements apart). THE CARD IS WHAT COUNTS. Prove the row's statement (the work); the ties are given (Qxb6603042aDoorTie.lean); close each card by the builder's one call (the guide's Derived/Test/ToyasCard.lean, 'card_holds'). Laid BY PROGRAM, IN A SANDBOX (cutbox-door.mjs). By AI agents, Wed Nov 11 2026. No macro, syntax, notation, axiom, sorry.
-/
import Derived.Test.Qxb6603042aDoorRows
import GoSem.ClaimSeven
namespace Go.Proofs.Qxb6603042aDoor
namespace Rows

/-- THE TIED CARD OF 'zzlaws_internal_policy_b1.FnNewApplicationExactText'. -/
def fnNewApplicationExactTextCard : Claim7 := { stood := { row := fnNewApplicationExactTextRow, standIns := [], harness := (true, "a602a91377a71d14fafb45ea7d73131cefa22765e740a3303856e14f706b3331"), looks := false }, kinds := [], alts := [], laidByText := true, laidKinds := [.data, .pinned], laidTests := true, laidLooks := .later }
def FnNewApplicationExactTextCardSaid : Prop := Claim7.holds Tryd.pinned (.plain (OpenSpec.ofChange fnNewApplicationExactTextSpec)) fnNewApplicationExactTextCard

/-- THE TIED CARD OF 'zzlaws_internal_policy_b1.FnNewApplicationLikeAFreshBlockCopiesItsStatements'. -/
def fnNewApplicationLikeAFreshBlockCopiesItsStatementsCard : Claim7 := { stood := { row := fnNewApplicationLikeAFreshBlockCopiesItsStatementsRow, standIns := [], harness := (true, "a602a91377a71d14fafb45ea7d73131cefa22765e740a3303856e14f706b3331"), looks := false }, kinds := [], alts := [], laidByText := true, laidKinds := [.data, .pinned], laidTests := true, laidLooks := .later }
def FnNewApplicationLikeAFreshBlockCopiesItsStatementsCardSaid : Prop := Claim7.holds Tryd.pinned (.plain (OpenSpec.ofChange fnNewApplicationLikeAFreshBlockCopiesItsStatementsSpec)) fnNewApplicationLikeAFreshBlockCopiesItsStatementsCard
end Rows
end Go.Proofs.Qxb6603042aDoor

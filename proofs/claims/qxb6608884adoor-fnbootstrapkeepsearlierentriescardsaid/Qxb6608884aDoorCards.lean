/-
  DERIVED. GIVEN WITH THE SEED: THE CARDS: each row of Qxb6608884aDoorRows.lean that lists a variable, with what it lists TIED to the program's text (the seventh form; the later family's looks); each row that meets fmt, with fmt's text TOLD by the authors' own Lean function (tested against real Go, not proved from fmt's source: count such statements apart). THE CARD IS WHAT COUNTS. Prove the row's statement (the work); the ties are given (Qxb6608884aDoorTie.lean); close each card by the builder's one call (the guide's Derived/Test/ToyasCard.lean, 'card_holds'). Laid BY PROGRAM, IN A SANDBOX (cutbox-door.mjs). By AI agents, Wed Nov 11 2026. No macro, syntax, notation, axiom, sorry.
-/
import Derived.Test.Qxb6608884aDoorRows
import GoSem.ClaimSeven
namespace Go.Proofs.Qxb6608884aDoor
namespace Rows

/-- THE TIED CARD OF 'zzlaws_root_b1.FnBootstrapSplitAgrees'. -/
def fnBootstrapSplitAgreesCard : Claim7 := { stood := { row := fnBootstrapSplitAgreesRow, standIns := [], harness := (true, "82a9b387903d81cf6d013ee2bcad41074cee5fe1e4b965911bd1acef399abe06"), looks := false }, kinds := [], alts := [], laidByText := true, laidKinds := [.called, .called], laidTests := true, laidLooks := .later }
def FnBootstrapSplitAgreesCardSaid : Prop := Claim7.holds Tryd.pinned (.plain (OpenSpec.ofChange fnBootstrapSplitAgreesSpec)) fnBootstrapSplitAgreesCard

/-- THE TIED CARD OF 'zzlaws_root_b1.FnBootstrapKeepsEarlierEntries'. -/
def fnBootstrapKeepsEarlierEntriesCard : Claim7 := { stood := { row := fnBootstrapKeepsEarlierEntriesRow, standIns := [], harness := (true, "82a9b387903d81cf6d013ee2bcad41074cee5fe1e4b965911bd1acef399abe06"), looks := false }, kinds := [], alts := [], laidByText := true, laidKinds := [.called, .called], laidTests := true, laidLooks := .later }
def FnBootstrapKeepsEarlierEntriesCardSaid : Prop := Claim7.holds Tryd.pinned (.plain (OpenSpec.ofChange fnBootstrapKeepsEarlierEntriesSpec)) fnBootstrapKeepsEarlierEntriesCard
end Rows
end Go.Proofs.Qxb6608884aDoor

/-
  DERIVED. GIVEN WITH THE SEED: THE CARDS: each row of Qxb6602223aDoorRows.lean that lists a variable, with what it lists TIED to the program's text (the seventh form; the later family's looks); each row that meets fmt, with fmt's text TOLD by the authors' own Lean function (tested against real Go, not proved from fmt's source: count such statements apart). THE CARD IS WHAT COUNTS. Prove the row's statement (the work); the ties are given (Qxb6602223aDoorTie.lean); close each card by the builder's one call (the guide's Derived/Test/ToyasCard.lean, 'card_holds'). Laid BY PROGRAM, IN A SANDBOX (cutbox-door.mjs). By AI agents, Wed Nov 11 2026. No macro, syntax, notation, axiom, sorry.
-/
import Derived.Test.Qxb6602223aDoorRows
import GoSem.ClaimSeven
namespace Go.Proofs.Qxb6602223aDoor
namespace Rows

/-- THE TIED CARD OF 'zzlaws_root_b1.FnNumberedChildMatchesModel'. -/
def fnNumberedChildMatchesModelCard : Claim7 := { stood := { row := fnNumberedChildMatchesModelRow, standIns := [], harness := (true, "168d92c883d631b2d4b23723bb07e0cd154b310e32dced1f60dd1225c1cf2cb1"), looks := true }, kinds := [], alts := [], laidByText := true, laidKinds := [.data, .data, .data, .sentinel, .sentinel], laidTests := true, laidLooks := .later }
def FnNumberedChildMatchesModelCardSaid : Prop := Claim7.holds Tryd.pinned (.plain (OpenSpec.ofChange fnNumberedChildMatchesModelSpec)) fnNumberedChildMatchesModelCard

/-- THE TIED CARD OF 'zzlaws_root_b1.FnNumberedChildSplitsWhatIsJoined'. -/
def fnNumberedChildSplitsWhatIsJoinedCard : Claim7 := { stood := { row := fnNumberedChildSplitsWhatIsJoinedRow, standIns := [], harness := (true, "168d92c883d631b2d4b23723bb07e0cd154b310e32dced1f60dd1225c1cf2cb1"), looks := true }, kinds := [], alts := [], laidByText := true, laidKinds := [.data, .data, .data, .sentinel, .sentinel], laidTests := true, laidLooks := .later }
def FnNumberedChildSplitsWhatIsJoinedCardSaid : Prop := Claim7.holds Tryd.pinned (.plain (OpenSpec.ofChange fnNumberedChildSplitsWhatIsJoinedSpec)) fnNumberedChildSplitsWhatIsJoinedCard

/-- THE TIED CARD OF 'zzlaws_root_b1.FnNumberedChildRejoinsToItsInput'. -/
def fnNumberedChildRejoinsToItsInputCard : Claim7 := { stood := { row := fnNumberedChildRejoinsToItsInputRow, standIns := [], harness := (true, "168d92c883d631b2d4b23723bb07e0cd154b310e32dced1f60dd1225c1cf2cb1"), looks := true }, kinds := [], alts := [], laidByText := true, laidKinds := [.data, .data, .data, .sentinel, .sentinel], laidTests := true, laidLooks := .later }
def FnNumberedChildRejoinsToItsInputCardSaid : Prop := Claim7.holds Tryd.pinned (.plain (OpenSpec.ofChange fnNumberedChildRejoinsToItsInputSpec)) fnNumberedChildRejoinsToItsInputCard
end Rows
end Go.Proofs.Qxb6602223aDoor

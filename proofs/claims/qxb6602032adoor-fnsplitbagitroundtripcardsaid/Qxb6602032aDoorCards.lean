/-
  DERIVED. GIVEN WITH THE SEED: THE CARDS: each row of Qxb6602032aDoorRows.lean that lists a variable, with what it lists TIED to the program's text (the seventh form; the later family's looks); each row that meets fmt, with fmt's text TOLD by the authors' own Lean function (tested against real Go, not proved from fmt's source: count such statements apart). THE CARD IS WHAT COUNTS. Prove the row's statement (the work); the ties are given (Qxb6602032aDoorTie.lean); close each card by the builder's one call (the guide's Derived/Test/ToyasCard.lean, 'card_holds'). Laid BY PROGRAM, IN A SANDBOX (cutbox-door.mjs). By AI agents, Wed Nov 11 2026. No macro, syntax, notation, axiom, sorry.
-/
import Derived.Test.Qxb6602032aDoorRows
import GoSem.ClaimSeven
namespace Go.Proofs.Qxb6602032aDoor
namespace Rows

/-- THE TIED CARD OF 'zzlaws_pkg_manifest_b1.FnSplitBagItMatchesScanner'. -/
def fnSplitBagItMatchesScannerCard : Claim7 := { stood := { row := fnSplitBagItMatchesScannerRow, standIns := [], harness := (true, "bcbc0436cafabf7ac3b4af71c7209773a0c28b9e08d7d74b23a39300d1c4f65f"), looks := false }, kinds := [], alts := [], laidByText := true, laidKinds := [.data, .pinned], laidTests := true, laidLooks := .later }
def FnSplitBagItMatchesScannerCardSaid : Prop := Claim7.holds Tryd.pinned (.plain (OpenSpec.ofChange fnSplitBagItMatchesScannerSpec)) fnSplitBagItMatchesScannerCard

/-- THE TIED CARD OF 'zzlaws_pkg_manifest_b1.FnSplitBagItRoundTrip'. -/
def fnSplitBagItRoundTripCard : Claim7 := { stood := { row := fnSplitBagItRoundTripRow, standIns := [], harness := (true, "bcbc0436cafabf7ac3b4af71c7209773a0c28b9e08d7d74b23a39300d1c4f65f"), looks := false }, kinds := [], alts := [], laidByText := true, laidKinds := [.data, .pinned], laidTests := true, laidLooks := .later }
def FnSplitBagItRoundTripCardSaid : Prop := Claim7.holds Tryd.pinned (.plain (OpenSpec.ofChange fnSplitBagItRoundTripSpec)) fnSplitBagItRoundTripCard
end Rows
end Go.Proofs.Qxb6602032aDoor

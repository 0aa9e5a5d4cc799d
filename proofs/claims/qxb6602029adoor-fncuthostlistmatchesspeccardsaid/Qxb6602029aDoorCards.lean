/-
  DERIVED. GIVEN WITH THE SEED: THE CARDS: each row of Qxb6602029aDoorRows.lean that lists a variable, with what it lists TIED to the program's text (the seventh form; the later family's looks); each row that meets fmt, with fmt's text TOLD by the authors' own Lean function (tested against real Go, not proved from fmt's source: count such statements apart). THE CARD IS WHAT COUNTS. Prove the row's statement (the work); the ties are given (Qxb6602029aDoorTie.lean); close each card by the builder's one call (the guide's Derived/Test/ToyasCard.lean, 'card_holds'). Laid BY PROGRAM, IN A SANDBOX (cutbox-door.mjs). By AI agents, Wed Nov 11 2026. No macro, syntax, notation, axiom, sorry.
-/
import Derived.Test.Qxb6602029aDoorRows
import GoSem.ClaimSeven
namespace Go.Proofs.Qxb6602029aDoor
namespace Rows

/-- THE TIED CARD OF 'zzlaws_internal_endpoint_b1.FnHostFaultMatchesBackwardScan'. -/
def fnHostFaultMatchesBackwardScanCard : Claim7 := { stood := { row := fnHostFaultMatchesBackwardScanRow, standIns := [], harness := (true, "757d4d0ffd0e6f0a759d3bff1e9e973913e6a3d682fedf12ef1bb6094ffc97cf"), looks := false }, kinds := [], alts := [], laidByText := true, laidKinds := [.data, .pinned], laidTests := true, laidLooks := .later }
def FnHostFaultMatchesBackwardScanCardSaid : Prop := Claim7.holds Tryd.pinned (.plain (OpenSpec.ofChange fnHostFaultMatchesBackwardScanSpec)) fnHostFaultMatchesBackwardScanCard

/-- THE TIED CARD OF 'zzlaws_internal_endpoint_b1.FnHostFaultIgnoresWhatPrecedesABracket'. -/
def fnHostFaultIgnoresWhatPrecedesABracketCard : Claim7 := { stood := { row := fnHostFaultIgnoresWhatPrecedesABracketRow, standIns := [], harness := (true, "757d4d0ffd0e6f0a759d3bff1e9e973913e6a3d682fedf12ef1bb6094ffc97cf"), looks := false }, kinds := [], alts := [], laidByText := true, laidKinds := [.data, .pinned], laidTests := true, laidLooks := .later }
def FnHostFaultIgnoresWhatPrecedesABracketCardSaid : Prop := Claim7.holds Tryd.pinned (.plain (OpenSpec.ofChange fnHostFaultIgnoresWhatPrecedesABracketSpec)) fnHostFaultIgnoresWhatPrecedesABracketCard

/-- THE TIED CARD OF 'zzlaws_internal_endpoint_b1.FnHostFaultIgnoresAppendedDigits'. -/
def fnHostFaultIgnoresAppendedDigitsCard : Claim7 := { stood := { row := fnHostFaultIgnoresAppendedDigitsRow, standIns := [], harness := (true, "757d4d0ffd0e6f0a759d3bff1e9e973913e6a3d682fedf12ef1bb6094ffc97cf"), looks := false }, kinds := [], alts := [], laidByText := true, laidKinds := [.data, .pinned], laidTests := true, laidLooks := .later }
def FnHostFaultIgnoresAppendedDigitsCardSaid : Prop := Claim7.holds Tryd.pinned (.plain (OpenSpec.ofChange fnHostFaultIgnoresAppendedDigitsSpec)) fnHostFaultIgnoresAppendedDigitsCard

/-- THE TIED CARD OF 'zzlaws_internal_endpoint_b1.FnCutHostListMatchesSpec'. -/
def fnCutHostListMatchesSpecCard : Claim7 := { stood := { row := fnCutHostListMatchesSpecRow, standIns := [], harness := (true, "757d4d0ffd0e6f0a759d3bff1e9e973913e6a3d682fedf12ef1bb6094ffc97cf"), looks := false }, kinds := [], alts := [], laidByText := true, laidKinds := [.data, .pinned, .pinned], laidTests := true, laidLooks := .later }
def FnCutHostListMatchesSpecCardSaid : Prop := Claim7.holds Tryd.pinned (.plain (OpenSpec.ofChange fnCutHostListMatchesSpecSpec)) fnCutHostListMatchesSpecCard

/-- THE TIED CARD OF 'zzlaws_internal_endpoint_b1.FnCutHostListIsIdempotent'. -/
def fnCutHostListIsIdempotentCard : Claim7 := { stood := { row := fnCutHostListIsIdempotentRow, standIns := [], harness := (true, "757d4d0ffd0e6f0a759d3bff1e9e973913e6a3d682fedf12ef1bb6094ffc97cf"), looks := false }, kinds := [], alts := [], laidByText := true, laidKinds := [.data, .pinned, .pinned], laidTests := true, laidLooks := .later }
def FnCutHostListIsIdempotentCardSaid : Prop := Claim7.holds Tryd.pinned (.plain (OpenSpec.ofChange fnCutHostListIsIdempotentSpec)) fnCutHostListIsIdempotentCard
end Rows
end Go.Proofs.Qxb6602029aDoor

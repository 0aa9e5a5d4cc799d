/-
  DERIVED. GIVEN WITH THE SEED: THE CARDS: each row of Qxb6602105aDoorRows.lean that lists a variable, with what it lists TIED to the program's text (the seventh form; the later family's looks); each row that meets fmt, with fmt's text TOLD by the authors' own Lean function (tested against real Go, not proved from fmt's source: count such statements apart). THE CARD IS WHAT COUNTS. Prove the row's statement (the work); the ties are given (Qxb6602105aDoorTie.lean); close each card by the builder's one call (the guide's Derived/Test/ToyasCard.lean, 'card_holds'). Laid BY PROGRAM, IN A SANDBOX (cutbox-door.mjs). By AI agents, Wed Nov 11 2026. No macro, syntax, notation, axiom, sorry.
-/
import Derived.Test.Qxb6602105aDoorRows
import GoSem.ClaimSeven
namespace Go.Proofs.Qxb6602105aDoor
namespace Rows

/-- THE TIED CARD OF 'zzlaws_mail_b1.FnWriteHeaderIsGreedyFold'. -/
def fnWriteHeaderIsGreedyFoldCard : Claim7 := { stood := { row := fnWriteHeaderIsGreedyFoldRow, standIns := [], harness := (true, "9cff67801a03fbe10562270ed6b121682e453dd58713be3ce1b8bb15eb452be4"), looks := false }, kinds := [], alts := [], laidByText := true, laidKinds := [.data, .sentinel, .pinned], laidTests := true, laidLooks := .later }
def FnWriteHeaderIsGreedyFoldCardSaid : Prop := Claim7.holds Tryd.pinned (.plain (OpenSpec.ofChange fnWriteHeaderIsGreedyFoldSpec)) fnWriteHeaderIsGreedyFoldCard

/-- THE TIED CARD OF 'zzlaws_mail_b1.FnWriteHeaderShortStaysOneLine'. -/
def fnWriteHeaderShortStaysOneLineCard : Claim7 := { stood := { row := fnWriteHeaderShortStaysOneLineRow, standIns := [], harness := (true, "9cff67801a03fbe10562270ed6b121682e453dd58713be3ce1b8bb15eb452be4"), looks := false }, kinds := [], alts := [], laidByText := true, laidKinds := [.data, .sentinel, .pinned], laidTests := true, laidLooks := .later }
def FnWriteHeaderShortStaysOneLineCardSaid : Prop := Claim7.holds Tryd.pinned (.plain (OpenSpec.ofChange fnWriteHeaderShortStaysOneLineSpec)) fnWriteHeaderShortStaysOneLineCard

/-- THE TIED CARD OF 'zzlaws_mail_b1.FnRecipientFieldCaseTable'. -/
def fnRecipientFieldCaseTableCard : Claim7 := { stood := { row := fnRecipientFieldCaseTableRow, standIns := [], harness := (true, "9cff67801a03fbe10562270ed6b121682e453dd58713be3ce1b8bb15eb452be4"), looks := false }, kinds := [], alts := [], laidByText := true, laidKinds := [.data, .pinned, .pinned], laidTests := true, laidLooks := .later }
def FnRecipientFieldCaseTableCardSaid : Prop := Claim7.holds Tryd.pinned (.plain (OpenSpec.ofChange fnRecipientFieldCaseTableSpec)) fnRecipientFieldCaseTableCard

/-- THE TIED CARD OF 'zzlaws_mail_b1.FnRecipientFieldIgnoresASCIICase'. -/
def fnRecipientFieldIgnoresASCIICaseCard : Claim7 := { stood := { row := fnRecipientFieldIgnoresASCIICaseRow, standIns := [], harness := (true, "9cff67801a03fbe10562270ed6b121682e453dd58713be3ce1b8bb15eb452be4"), looks := false }, kinds := [], alts := [], laidByText := true, laidKinds := [.data, .pinned, .pinned], laidTests := true, laidLooks := .later }
def FnRecipientFieldIgnoresASCIICaseCardSaid : Prop := Claim7.holds Tryd.pinned (.plain (OpenSpec.ofChange fnRecipientFieldIgnoresASCIICaseSpec)) fnRecipientFieldIgnoresASCIICaseCard
end Rows
end Go.Proofs.Qxb6602105aDoor

/-
  NARROWER THAN 'FOR EVERY INPUT', by the rows' own cells (each row's printed sentence says how): FnSplitBagItMatchesScanner: laid · FnSplitBagItRoundTrip: laid.
  DERIVED. THE GIVEN ROWS OF THIS SEAT. 2 by the template 'for every input the law returns true; each argument reads behind the call as it read before'; 0 by the template 'total and deterministic' (their statements: Qxb6602032aDoorTotals.lean).
  GIVEN WITH THE SEED: the statements are not yours to turn. If you find one false, say at which input.
  Laid BY PROGRAM, IN A SANDBOX (cutbox-rows.mjs): the forced cells as the released guide's own fill.sh prints them over the translation 47ab3f86fe47e0b4… (all of the seat's roots in one cut). By AI agents, Wed Nov 11 2026. No macro, syntax, notation, axiom, sorry.
-/
import Derived.Test.Qxb6602032aDoorChecked
import GoSem.PinnedTables
import GoSem.Claim
import GoSem.ClaimJoined
import GoSem.ClaimMapViews
import Derived.JoinedTies
import Derived.KernelRfl
namespace Go.Proofs.Qxb6602032aDoor
/- THE CELL 'sum', in the pinned program and in every row, IS THE sha256 OF THE DUMP (.gsa) THAT Qxb6602032aDoorProg.lean LOADS. Nothing in Lean hashes anything: it is a label: what it is worth is what the hold of that sum in a sandbox is worth. -/
noncomputable def Tryd.pinned : Pinned := { name := "qxb6602032adoor", sum := "47ab3f86fe47e0b44275a37defc32ed31ab0bffa15d5b162febf0ea8b2ad83d3", checked := Tryd.checked }
namespace Rows
def none {H : Type} : Left H := { results := [], args := [] }

/- WHAT THE LISTED PACKAGE-LEVEL VARIABLES READ AS WHEN THE CALL BEGINS. Each datum BY PROGRAM (the guide's laid-datum.mjs) off the statement by which the dump's own 'gosem.cut.vars' lays the variable. In a bare row this is a premise. The card (Qxb6602032aDoorCards.lean) ties it to the program's text. -/
def laid_unicode_utf8_acceptRanges {H : Type} : DataW H := .agg [.agg [.lit (.int .u8 128), .lit (.int .u8 191)], .agg [.lit (.int .u8 160), .lit (.int .u8 191)], .agg [.lit (.int .u8 128), .lit (.int .u8 159)], .agg [.lit (.int .u8 144), .lit (.int .u8 191)], .agg [.lit (.int .u8 128), .lit (.int .u8 143)], .agg [.lit (.int .u8 0), .lit (.int .u8 0)], .agg [.lit (.int .u8 0), .lit (.int .u8 0)], .agg [.lit (.int .u8 0), .lit (.int .u8 0)], .agg [.lit (.int .u8 0), .lit (.int .u8 0)], .agg [.lit (.int .u8 0), .lit (.int .u8 0)], .agg [.lit (.int .u8 0), .lit (.int .u8 0)], .agg [.lit (.int .u8 0), .lit (.int .u8 0)], .agg [.lit (.int .u8 0), .lit (.int .u8 0)], .agg [.lit (.int .u8 0), .lit (.int .u8 0)], .agg [.lit (.int .u8 0), .lit (.int .u8 0)], .agg [.lit (.int .u8 0), .lit (.int .u8 0)]]
/-- One of Go's own tables, pinned by name: the form's constant. -/
def laid_unicode_utf8_first : DataW Unit := Go.Pinned.utf8First

/-- 'zzlaws_pkg_manifest_b1.FnSplitBagItMatchesScanner': WHATEVER THE INPUT: true; the input reads as it did. -/
def fnSplitBagItMatchesScannerSpec : ChangeSpec := { name := "fnSplitBagItMatchesScanner", fn := fun _ => fun
  | [d] => { results := [.lit (.bool true)], args := [d] }
  | _ => none }
def fnSplitBagItMatchesScannerRow : OpenClaim := { program := "qxb6602032adoor", sum := "47ab3f86fe47e0b44275a37defc32ed31ab0bffa15d5b162febf0ea8b2ad83d3", func := "example.com/witnessline/witnessline/zzlaws_pkg_manifest_b1.FnSplitBagItMatchesScanner", spec := "fnSplitBagItMatchesScanner", inPlace := ["internal/bytealg.CountString", "internal/bytealg.IndexByteString", "internal/bytealg.IndexString", "internal/abi.NoEscape", "internal/bytealg.MakeNoZero"], named := ["internal/bytealg.MaxLen", "unicode/utf8.first", "unicode/utf8.acceptRanges"], apart := false, laid := [("unicode/utf8.acceptRanges", laid_unicode_utf8_acceptRanges), ("unicode/utf8.first", laid_unicode_utf8_first)] }
def FnSplitBagItMatchesScannerSaid : Prop := fnSplitBagItMatchesScannerRow.holds Tryd.pinned (OpenSpec.ofChange fnSplitBagItMatchesScannerSpec)

/-- ITS FALSE NEIGHBOUR: 'it returns false'. Refute it at one input. -/
def fnSplitBagItMatchesScannerWrong : ChangeSpec := { name := "fnSplitBagItMatchesScanner", fn := fun _ => fun
  | [d] => { results := [.lit (.bool false)], args := [d] }
  | _ => none }
def FnSplitBagItMatchesScannerWrongFalsely : Prop := fnSplitBagItMatchesScannerRow.holds Tryd.pinned (OpenSpec.ofChange fnSplitBagItMatchesScannerWrong)

/-- 'zzlaws_pkg_manifest_b1.FnSplitBagItRoundTrip': WHATEVER THE INPUT: true; the input reads as it did. -/
def fnSplitBagItRoundTripSpec : ChangeSpec := { name := "fnSplitBagItRoundTrip", fn := fun _ => fun
  | [d1, d2, d3] => { results := [.lit (.bool true)], args := [d1, d2, d3] }
  | _ => none }
def fnSplitBagItRoundTripRow : OpenClaim := { program := "qxb6602032adoor", sum := "47ab3f86fe47e0b44275a37defc32ed31ab0bffa15d5b162febf0ea8b2ad83d3", func := "example.com/witnessline/witnessline/zzlaws_pkg_manifest_b1.FnSplitBagItRoundTrip", spec := "fnSplitBagItRoundTrip", inPlace := ["internal/bytealg.CountString", "internal/bytealg.IndexByteString", "internal/bytealg.IndexString", "internal/abi.NoEscape", "internal/bytealg.MakeNoZero"], named := ["internal/bytealg.MaxLen", "unicode/utf8.first", "unicode/utf8.acceptRanges"], apart := false, laid := [("unicode/utf8.acceptRanges", laid_unicode_utf8_acceptRanges), ("unicode/utf8.first", laid_unicode_utf8_first)] }
def FnSplitBagItRoundTripSaid : Prop := fnSplitBagItRoundTripRow.holds Tryd.pinned (OpenSpec.ofChange fnSplitBagItRoundTripSpec)

/-- ITS FALSE NEIGHBOUR: 'it returns false'. Refute it at one input. -/
def fnSplitBagItRoundTripWrong : ChangeSpec := { name := "fnSplitBagItRoundTrip", fn := fun _ => fun
  | [d1, d2, d3] => { results := [.lit (.bool false)], args := [d1, d2, d3] }
  | _ => none }
def FnSplitBagItRoundTripWrongFalsely : Prop := fnSplitBagItRoundTripRow.holds Tryd.pinned (OpenSpec.ofChange fnSplitBagItRoundTripWrong)

end Rows
end Go.Proofs.Qxb6602032aDoor

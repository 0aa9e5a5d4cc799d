/-
  NARROWER THAN 'FOR EVERY INPUT', by the rows' own cells (each row's printed sentence says how): FnHostFaultMatchesBackwardScan: laid · FnHostFaultIgnoresWhatPrecedesABracket: laid · FnHostFaultIgnoresAppendedDigits: laid · FnCutHostListMatchesSpec: laid · FnCutHostListIsIdempotent: laid.
  DERIVED. THE GIVEN ROWS OF THIS SEAT. 5 by the template 'for every input the law returns true; each argument reads behind the call as it read before'; 0 by the template 'total and deterministic' (their statements: Qxb6602029aDoorTotals.lean).
  GIVEN WITH THE SEED: the statements are not yours to turn. If you find one false, say at which input.
  Laid BY PROGRAM, IN A SANDBOX (cutbox-rows.mjs): the forced cells as the released guide's own fill.sh prints them over the translation 1ed373dce26c62db… (all of the seat's roots in one cut). By AI agents, Wed Nov 11 2026. No macro, syntax, notation, axiom, sorry.
-/
import Derived.Test.Qxb6602029aDoorChecked
import GoSem.PinnedTables
import GoSem.Claim
import GoSem.ClaimJoined
import GoSem.ClaimMapViews
import Derived.JoinedTies
import Derived.KernelRfl
namespace Go.Proofs.Qxb6602029aDoor
/- THE CELL 'sum', in the pinned program and in every row, IS THE sha256 OF THE DUMP (.gsa) THAT Qxb6602029aDoorProg.lean LOADS. Nothing in Lean hashes anything: it is a label: what it is worth is what the hold of that sum in a sandbox is worth. -/
noncomputable def Tryd.pinned : Pinned := { name := "qxb6602029adoor", sum := "1ed373dce26c62db64f12655f0d17fc9aa44896fc7c803c181c47fff2e1426dd", checked := Tryd.checked }
namespace Rows
def none {H : Type} : Left H := { results := [], args := [] }

/- WHAT THE LISTED PACKAGE-LEVEL VARIABLES READ AS WHEN THE CALL BEGINS. Each datum BY PROGRAM (the guide's laid-datum.mjs) off the statement by which the dump's own 'gosem.cut.vars' lays the variable. In a bare row this is a premise. The card (Qxb6602029aDoorCards.lean) ties it to the program's text. -/
def laid_unicode_utf8_acceptRanges {H : Type} : DataW H := .agg [.agg [.lit (.int .u8 128), .lit (.int .u8 191)], .agg [.lit (.int .u8 160), .lit (.int .u8 191)], .agg [.lit (.int .u8 128), .lit (.int .u8 159)], .agg [.lit (.int .u8 144), .lit (.int .u8 191)], .agg [.lit (.int .u8 128), .lit (.int .u8 143)], .agg [.lit (.int .u8 0), .lit (.int .u8 0)], .agg [.lit (.int .u8 0), .lit (.int .u8 0)], .agg [.lit (.int .u8 0), .lit (.int .u8 0)], .agg [.lit (.int .u8 0), .lit (.int .u8 0)], .agg [.lit (.int .u8 0), .lit (.int .u8 0)], .agg [.lit (.int .u8 0), .lit (.int .u8 0)], .agg [.lit (.int .u8 0), .lit (.int .u8 0)], .agg [.lit (.int .u8 0), .lit (.int .u8 0)], .agg [.lit (.int .u8 0), .lit (.int .u8 0)], .agg [.lit (.int .u8 0), .lit (.int .u8 0)], .agg [.lit (.int .u8 0), .lit (.int .u8 0)]]
/-- One of Go's own tables, pinned by name: the form's constant. -/
def laid_unicode_utf8_first : DataW Unit := Go.Pinned.utf8First
/-- One of Go's own tables, pinned by name: the form's constant. -/
def laid_unicode_CaseRanges : DataW Unit := Go.Pinned.caseRanges

/-- 'zzlaws_internal_endpoint_b1.FnHostFaultMatchesBackwardScan': WHATEVER THE INPUT: true; the input reads as it did. -/
def fnHostFaultMatchesBackwardScanSpec : ChangeSpec := { name := "fnHostFaultMatchesBackwardScan", fn := fun _ => fun
  | [d] => { results := [.lit (.bool true)], args := [d] }
  | _ => none }
def fnHostFaultMatchesBackwardScanRow : OpenClaim := { program := "qxb6602029adoor", sum := "1ed373dce26c62db64f12655f0d17fc9aa44896fc7c803c181c47fff2e1426dd", func := "example.com/relaybox/relaybox/zzlaws_internal_endpoint_b1.FnHostFaultMatchesBackwardScan", spec := "fnHostFaultMatchesBackwardScan", inPlace := ["internal/bytealg.IndexByteString", "internal/bytealg.IndexString"], named := ["unicode/utf8.first", "unicode/utf8.acceptRanges", "internal/bytealg.MaxLen"], apart := false, laid := [("unicode/utf8.acceptRanges", laid_unicode_utf8_acceptRanges), ("unicode/utf8.first", laid_unicode_utf8_first)] }
def FnHostFaultMatchesBackwardScanSaid : Prop := fnHostFaultMatchesBackwardScanRow.holds Tryd.pinned (OpenSpec.ofChange fnHostFaultMatchesBackwardScanSpec)

/-- ITS FALSE NEIGHBOUR: 'it returns false'. Refute it at one input. -/
def fnHostFaultMatchesBackwardScanWrong : ChangeSpec := { name := "fnHostFaultMatchesBackwardScan", fn := fun _ => fun
  | [d] => { results := [.lit (.bool false)], args := [d] }
  | _ => none }
def FnHostFaultMatchesBackwardScanWrongFalsely : Prop := fnHostFaultMatchesBackwardScanRow.holds Tryd.pinned (OpenSpec.ofChange fnHostFaultMatchesBackwardScanWrong)

/-- 'zzlaws_internal_endpoint_b1.FnHostFaultIgnoresWhatPrecedesABracket': WHATEVER THE INPUT: true; the input reads as it did. -/
def fnHostFaultIgnoresWhatPrecedesABracketSpec : ChangeSpec := { name := "fnHostFaultIgnoresWhatPrecedesABracket", fn := fun _ => fun
  | [d1, d2] => { results := [.lit (.bool true)], args := [d1, d2] }
  | _ => none }
def fnHostFaultIgnoresWhatPrecedesABracketRow : OpenClaim := { program := "qxb6602029adoor", sum := "1ed373dce26c62db64f12655f0d17fc9aa44896fc7c803c181c47fff2e1426dd", func := "example.com/relaybox/relaybox/zzlaws_internal_endpoint_b1.FnHostFaultIgnoresWhatPrecedesABracket", spec := "fnHostFaultIgnoresWhatPrecedesABracket", inPlace := ["internal/bytealg.IndexByteString", "internal/bytealg.IndexString"], named := ["unicode/utf8.first", "unicode/utf8.acceptRanges", "internal/bytealg.MaxLen"], apart := false, laid := [("unicode/utf8.acceptRanges", laid_unicode_utf8_acceptRanges), ("unicode/utf8.first", laid_unicode_utf8_first)] }
def FnHostFaultIgnoresWhatPrecedesABracketSaid : Prop := fnHostFaultIgnoresWhatPrecedesABracketRow.holds Tryd.pinned (OpenSpec.ofChange fnHostFaultIgnoresWhatPrecedesABracketSpec)

/-- ITS FALSE NEIGHBOUR: 'it returns false'. Refute it at one input. -/
def fnHostFaultIgnoresWhatPrecedesABracketWrong : ChangeSpec := { name := "fnHostFaultIgnoresWhatPrecedesABracket", fn := fun _ => fun
  | [d1, d2] => { results := [.lit (.bool false)], args := [d1, d2] }
  | _ => none }
def FnHostFaultIgnoresWhatPrecedesABracketWrongFalsely : Prop := fnHostFaultIgnoresWhatPrecedesABracketRow.holds Tryd.pinned (OpenSpec.ofChange fnHostFaultIgnoresWhatPrecedesABracketWrong)

/-- 'zzlaws_internal_endpoint_b1.FnHostFaultIgnoresAppendedDigits': WHATEVER THE INPUT: true; the input reads as it did. -/
def fnHostFaultIgnoresAppendedDigitsSpec : ChangeSpec := { name := "fnHostFaultIgnoresAppendedDigits", fn := fun _ => fun
  | [d1, d2] => { results := [.lit (.bool true)], args := [d1, d2] }
  | _ => none }
def fnHostFaultIgnoresAppendedDigitsRow : OpenClaim := { program := "qxb6602029adoor", sum := "1ed373dce26c62db64f12655f0d17fc9aa44896fc7c803c181c47fff2e1426dd", func := "example.com/relaybox/relaybox/zzlaws_internal_endpoint_b1.FnHostFaultIgnoresAppendedDigits", spec := "fnHostFaultIgnoresAppendedDigits", inPlace := ["internal/bytealg.IndexByteString", "internal/bytealg.IndexString"], named := ["unicode/utf8.first", "unicode/utf8.acceptRanges", "internal/bytealg.MaxLen"], apart := false, laid := [("unicode/utf8.acceptRanges", laid_unicode_utf8_acceptRanges), ("unicode/utf8.first", laid_unicode_utf8_first)] }
def FnHostFaultIgnoresAppendedDigitsSaid : Prop := fnHostFaultIgnoresAppendedDigitsRow.holds Tryd.pinned (OpenSpec.ofChange fnHostFaultIgnoresAppendedDigitsSpec)

/-- ITS FALSE NEIGHBOUR: 'it returns false'. Refute it at one input. -/
def fnHostFaultIgnoresAppendedDigitsWrong : ChangeSpec := { name := "fnHostFaultIgnoresAppendedDigits", fn := fun _ => fun
  | [d1, d2] => { results := [.lit (.bool false)], args := [d1, d2] }
  | _ => none }
def FnHostFaultIgnoresAppendedDigitsWrongFalsely : Prop := fnHostFaultIgnoresAppendedDigitsRow.holds Tryd.pinned (OpenSpec.ofChange fnHostFaultIgnoresAppendedDigitsWrong)

/-- 'zzlaws_internal_endpoint_b1.FnCutHostListMatchesSpec': WHATEVER THE INPUT: true; the input reads as it did. -/
def fnCutHostListMatchesSpecSpec : ChangeSpec := { name := "fnCutHostListMatchesSpec", fn := fun _ => fun
  | [d1, d2, d3, d4] => { results := [.lit (.bool true)], args := [d1, d2, d3, d4] }
  | _ => none }
def fnCutHostListMatchesSpecRow : OpenClaim := { program := "qxb6602029adoor", sum := "1ed373dce26c62db64f12655f0d17fc9aa44896fc7c803c181c47fff2e1426dd", func := "example.com/relaybox/relaybox/zzlaws_internal_endpoint_b1.FnCutHostListMatchesSpec", spec := "fnCutHostListMatchesSpec", inPlace := ["internal/bytealg.IndexByteString", "internal/bytealg.IndexString", "internal/abi.NoEscape", "internal/bytealg.MakeNoZero"], unfollowed := true, recurses := true, named := ["internal/bytealg.MaxLen", "unicode/utf8.first", "unicode/utf8.acceptRanges", "unicode.CaseRanges"], apart := false, laid := [("unicode/utf8.acceptRanges", laid_unicode_utf8_acceptRanges), ("unicode.CaseRanges", laid_unicode_CaseRanges), ("unicode/utf8.first", laid_unicode_utf8_first)] }
def FnCutHostListMatchesSpecSaid : Prop := fnCutHostListMatchesSpecRow.holds Tryd.pinned (OpenSpec.ofChange fnCutHostListMatchesSpecSpec)

/-- ITS FALSE NEIGHBOUR: 'it returns false'. Refute it at one input. -/
def fnCutHostListMatchesSpecWrong : ChangeSpec := { name := "fnCutHostListMatchesSpec", fn := fun _ => fun
  | [d1, d2, d3, d4] => { results := [.lit (.bool false)], args := [d1, d2, d3, d4] }
  | _ => none }
def FnCutHostListMatchesSpecWrongFalsely : Prop := fnCutHostListMatchesSpecRow.holds Tryd.pinned (OpenSpec.ofChange fnCutHostListMatchesSpecWrong)

/-- 'zzlaws_internal_endpoint_b1.FnCutHostListIsIdempotent': WHATEVER THE INPUT: true; the input reads as it did. -/
def fnCutHostListIsIdempotentSpec : ChangeSpec := { name := "fnCutHostListIsIdempotent", fn := fun _ => fun
  | [d1, d2, d3, d4] => { results := [.lit (.bool true)], args := [d1, d2, d3, d4] }
  | _ => none }
def fnCutHostListIsIdempotentRow : OpenClaim := { program := "qxb6602029adoor", sum := "1ed373dce26c62db64f12655f0d17fc9aa44896fc7c803c181c47fff2e1426dd", func := "example.com/relaybox/relaybox/zzlaws_internal_endpoint_b1.FnCutHostListIsIdempotent", spec := "fnCutHostListIsIdempotent", inPlace := ["internal/bytealg.IndexByteString", "internal/bytealg.IndexString", "internal/abi.NoEscape", "internal/bytealg.MakeNoZero"], unfollowed := true, recurses := true, named := ["internal/bytealg.MaxLen", "unicode/utf8.first", "unicode/utf8.acceptRanges", "unicode.CaseRanges"], apart := false, laid := [("unicode/utf8.acceptRanges", laid_unicode_utf8_acceptRanges), ("unicode.CaseRanges", laid_unicode_CaseRanges), ("unicode/utf8.first", laid_unicode_utf8_first)] }
def FnCutHostListIsIdempotentSaid : Prop := fnCutHostListIsIdempotentRow.holds Tryd.pinned (OpenSpec.ofChange fnCutHostListIsIdempotentSpec)

/-- ITS FALSE NEIGHBOUR: 'it returns false'. Refute it at one input. -/
def fnCutHostListIsIdempotentWrong : ChangeSpec := { name := "fnCutHostListIsIdempotent", fn := fun _ => fun
  | [d1, d2, d3, d4] => { results := [.lit (.bool false)], args := [d1, d2, d3, d4] }
  | _ => none }
def FnCutHostListIsIdempotentWrongFalsely : Prop := fnCutHostListIsIdempotentRow.holds Tryd.pinned (OpenSpec.ofChange fnCutHostListIsIdempotentWrong)

end Rows
end Go.Proofs.Qxb6602029aDoor

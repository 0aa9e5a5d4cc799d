/-
  NARROWER THAN 'FOR EVERY INPUT', by the rows' own cells (each row's printed sentence says how): FnWriteHeaderIsGreedyFold: laid · FnWriteHeaderShortStaysOneLine: laid · FnRecipientFieldCaseTable: laid · FnRecipientFieldIgnoresASCIICase: laid.
  DERIVED. THE GIVEN ROWS OF THIS SEAT. 4 by the template 'for every input the law returns true; each argument reads behind the call as it read before'; 0 by the template 'total and deterministic' (their statements: Qxb6602105aDoorTotals.lean).
  GIVEN WITH THE SEED: the statements are not yours to turn. If you find one false, say at which input.
  Laid BY PROGRAM, IN A SANDBOX (cutbox-rows.mjs): the forced cells as the released guide's own fill.sh prints them over the translation 332a0fbe99015b42… (all of the seat's roots in one cut). By AI agents, Wed Nov 11 2026. No macro, syntax, notation, axiom, sorry.
-/
import Derived.Test.Qxb6602105aDoorChecked
import GoSem.PinnedTables
import GoSem.Claim
import GoSem.ClaimJoined
import GoSem.ClaimMapViews
import Derived.JoinedTies
import Derived.KernelRfl
namespace Go.Proofs.Qxb6602105aDoor
/- THE CELL 'sum', in the pinned program and in every row, IS THE sha256 OF THE DUMP (.gsa) THAT Qxb6602105aDoorProg.lean LOADS. Nothing in Lean hashes anything: it is a label: what it is worth is what the hold of that sum in a sandbox is worth. -/
noncomputable def Tryd.pinned : Pinned := { name := "qxb6602105adoor", sum := "332a0fbe99015b423ac85a00c56f1b59b72bc51c98b5230e6496fbf4f16c6b19", checked := Tryd.checked }
namespace Rows
def none {H : Type} : Left H := { results := [], args := [] }

/- WHAT THE LISTED PACKAGE-LEVEL VARIABLES READ AS WHEN THE CALL BEGINS. Each datum BY PROGRAM (the guide's laid-datum.mjs) off the statement by which the dump's own 'gosem.cut.vars' lays the variable. In a bare row this is a premise. The card (Qxb6602105aDoorCards.lean) ties it to the program's text. -/
def laid_unicode_utf8_acceptRanges {H : Type} : DataW H := .agg [.agg [.lit (.int .u8 128), .lit (.int .u8 191)], .agg [.lit (.int .u8 160), .lit (.int .u8 191)], .agg [.lit (.int .u8 128), .lit (.int .u8 159)], .agg [.lit (.int .u8 144), .lit (.int .u8 191)], .agg [.lit (.int .u8 128), .lit (.int .u8 143)], .agg [.lit (.int .u8 0), .lit (.int .u8 0)], .agg [.lit (.int .u8 0), .lit (.int .u8 0)], .agg [.lit (.int .u8 0), .lit (.int .u8 0)], .agg [.lit (.int .u8 0), .lit (.int .u8 0)], .agg [.lit (.int .u8 0), .lit (.int .u8 0)], .agg [.lit (.int .u8 0), .lit (.int .u8 0)], .agg [.lit (.int .u8 0), .lit (.int .u8 0)], .agg [.lit (.int .u8 0), .lit (.int .u8 0)], .agg [.lit (.int .u8 0), .lit (.int .u8 0)], .agg [.lit (.int .u8 0), .lit (.int .u8 0)], .agg [.lit (.int .u8 0), .lit (.int .u8 0)]]
def laid_bytes_ErrTooLarge {H : Type} : DataW H := .iface "*errors.errorString" (.ptr (.agg [.lit (.string [98, 121, 116, 101, 115, 46, 66, 117, 102, 102, 101, 114, 58, 32, 116, 111, 111, 32, 108, 97, 114, 103, 101])]))
/-- One of Go's own tables, pinned by name: the form's constant. -/
def laid_unicode_utf8_first : DataW Unit := Go.Pinned.utf8First
/-- One of Go's own tables, pinned by name: the form's constant. -/
def laid_unicode_CaseRanges : DataW Unit := Go.Pinned.caseRanges

/-- 'zzlaws_mail_b1.FnWriteHeaderIsGreedyFold': WHATEVER THE INPUT: true; the input reads as it did. -/
def fnWriteHeaderIsGreedyFoldSpec : ChangeSpec := { name := "fnWriteHeaderIsGreedyFold", fn := fun _ => fun
  | [d1, d2, d3] => { results := [.lit (.bool true)], args := [d1, d2, d3] }
  | _ => none }
def fnWriteHeaderIsGreedyFoldRow : OpenClaim := { program := "qxb6602105adoor", sum := "332a0fbe99015b423ac85a00c56f1b59b72bc51c98b5230e6496fbf4f16c6b19", func := "example.com/taperwick/taperwick/zzlaws_mail_b1.FnWriteHeaderIsGreedyFold", spec := "fnWriteHeaderIsGreedyFold", inPlace := ["internal/bytealg.CountString", "internal/bytealg.IndexByteString", "internal/bytealg.IndexString"], named := ["bytes.ErrTooLarge", "unicode/utf8.first", "unicode/utf8.acceptRanges", "internal/bytealg.MaxLen"], apart := false, laid := [("unicode/utf8.acceptRanges", laid_unicode_utf8_acceptRanges), ("bytes.ErrTooLarge", laid_bytes_ErrTooLarge), ("unicode/utf8.first", laid_unicode_utf8_first)] }
def FnWriteHeaderIsGreedyFoldSaid : Prop := fnWriteHeaderIsGreedyFoldRow.holds Tryd.pinned (OpenSpec.ofChange fnWriteHeaderIsGreedyFoldSpec)

/-- ITS FALSE NEIGHBOUR: 'it returns false'. Refute it at one input. -/
def fnWriteHeaderIsGreedyFoldWrong : ChangeSpec := { name := "fnWriteHeaderIsGreedyFold", fn := fun _ => fun
  | [d1, d2, d3] => { results := [.lit (.bool false)], args := [d1, d2, d3] }
  | _ => none }
def FnWriteHeaderIsGreedyFoldWrongFalsely : Prop := fnWriteHeaderIsGreedyFoldRow.holds Tryd.pinned (OpenSpec.ofChange fnWriteHeaderIsGreedyFoldWrong)

/-- 'zzlaws_mail_b1.FnWriteHeaderShortStaysOneLine': WHATEVER THE INPUT: true; the input reads as it did. -/
def fnWriteHeaderShortStaysOneLineSpec : ChangeSpec := { name := "fnWriteHeaderShortStaysOneLine", fn := fun _ => fun
  | [d1, d2, d3] => { results := [.lit (.bool true)], args := [d1, d2, d3] }
  | _ => none }
def fnWriteHeaderShortStaysOneLineRow : OpenClaim := { program := "qxb6602105adoor", sum := "332a0fbe99015b423ac85a00c56f1b59b72bc51c98b5230e6496fbf4f16c6b19", func := "example.com/taperwick/taperwick/zzlaws_mail_b1.FnWriteHeaderShortStaysOneLine", spec := "fnWriteHeaderShortStaysOneLine", inPlace := ["internal/bytealg.CountString", "internal/bytealg.IndexByteString", "internal/bytealg.IndexString"], named := ["bytes.ErrTooLarge", "unicode/utf8.first", "unicode/utf8.acceptRanges", "internal/bytealg.MaxLen"], apart := false, laid := [("unicode/utf8.acceptRanges", laid_unicode_utf8_acceptRanges), ("bytes.ErrTooLarge", laid_bytes_ErrTooLarge), ("unicode/utf8.first", laid_unicode_utf8_first)] }
def FnWriteHeaderShortStaysOneLineSaid : Prop := fnWriteHeaderShortStaysOneLineRow.holds Tryd.pinned (OpenSpec.ofChange fnWriteHeaderShortStaysOneLineSpec)

/-- ITS FALSE NEIGHBOUR: 'it returns false'. Refute it at one input. -/
def fnWriteHeaderShortStaysOneLineWrong : ChangeSpec := { name := "fnWriteHeaderShortStaysOneLine", fn := fun _ => fun
  | [d1, d2, d3] => { results := [.lit (.bool false)], args := [d1, d2, d3] }
  | _ => none }
def FnWriteHeaderShortStaysOneLineWrongFalsely : Prop := fnWriteHeaderShortStaysOneLineRow.holds Tryd.pinned (OpenSpec.ofChange fnWriteHeaderShortStaysOneLineWrong)

/-- 'zzlaws_mail_b1.FnRecipientFieldCaseTable': WHATEVER THE INPUT: true; the input reads as it did. -/
def fnRecipientFieldCaseTableSpec : ChangeSpec := { name := "fnRecipientFieldCaseTable", fn := fun _ => fun
  | [d1, d2, d3, d4] => { results := [.lit (.bool true)], args := [d1, d2, d3, d4] }
  | _ => none }
def fnRecipientFieldCaseTableRow : OpenClaim := { program := "qxb6602105adoor", sum := "332a0fbe99015b423ac85a00c56f1b59b72bc51c98b5230e6496fbf4f16c6b19", func := "example.com/taperwick/taperwick/zzlaws_mail_b1.FnRecipientFieldCaseTable", spec := "fnRecipientFieldCaseTable", inPlace := ["internal/abi.NoEscape", "internal/bytealg.MakeNoZero"], unfollowed := true, recurses := true, named := ["unicode/utf8.first", "unicode/utf8.acceptRanges", "unicode.CaseRanges"], apart := false, laid := [("unicode/utf8.acceptRanges", laid_unicode_utf8_acceptRanges), ("unicode.CaseRanges", laid_unicode_CaseRanges), ("unicode/utf8.first", laid_unicode_utf8_first)] }
def FnRecipientFieldCaseTableSaid : Prop := fnRecipientFieldCaseTableRow.holds Tryd.pinned (OpenSpec.ofChange fnRecipientFieldCaseTableSpec)

/-- ITS FALSE NEIGHBOUR: 'it returns false'. Refute it at one input. -/
def fnRecipientFieldCaseTableWrong : ChangeSpec := { name := "fnRecipientFieldCaseTable", fn := fun _ => fun
  | [d1, d2, d3, d4] => { results := [.lit (.bool false)], args := [d1, d2, d3, d4] }
  | _ => none }
def FnRecipientFieldCaseTableWrongFalsely : Prop := fnRecipientFieldCaseTableRow.holds Tryd.pinned (OpenSpec.ofChange fnRecipientFieldCaseTableWrong)

/-- 'zzlaws_mail_b1.FnRecipientFieldIgnoresASCIICase': WHATEVER THE INPUT: true; the input reads as it did. -/
def fnRecipientFieldIgnoresASCIICaseSpec : ChangeSpec := { name := "fnRecipientFieldIgnoresASCIICase", fn := fun _ => fun
  | [d1, d2, d3, d4] => { results := [.lit (.bool true)], args := [d1, d2, d3, d4] }
  | _ => none }
def fnRecipientFieldIgnoresASCIICaseRow : OpenClaim := { program := "qxb6602105adoor", sum := "332a0fbe99015b423ac85a00c56f1b59b72bc51c98b5230e6496fbf4f16c6b19", func := "example.com/taperwick/taperwick/zzlaws_mail_b1.FnRecipientFieldIgnoresASCIICase", spec := "fnRecipientFieldIgnoresASCIICase", inPlace := ["internal/abi.NoEscape", "internal/bytealg.MakeNoZero"], unfollowed := true, recurses := true, named := ["unicode/utf8.first", "unicode/utf8.acceptRanges", "unicode.CaseRanges"], apart := false, laid := [("unicode/utf8.acceptRanges", laid_unicode_utf8_acceptRanges), ("unicode.CaseRanges", laid_unicode_CaseRanges), ("unicode/utf8.first", laid_unicode_utf8_first)] }
def FnRecipientFieldIgnoresASCIICaseSaid : Prop := fnRecipientFieldIgnoresASCIICaseRow.holds Tryd.pinned (OpenSpec.ofChange fnRecipientFieldIgnoresASCIICaseSpec)

/-- ITS FALSE NEIGHBOUR: 'it returns false'. Refute it at one input. -/
def fnRecipientFieldIgnoresASCIICaseWrong : ChangeSpec := { name := "fnRecipientFieldIgnoresASCIICase", fn := fun _ => fun
  | [d1, d2, d3, d4] => { results := [.lit (.bool false)], args := [d1, d2, d3, d4] }
  | _ => none }
def FnRecipientFieldIgnoresASCIICaseWrongFalsely : Prop := fnRecipientFieldIgnoresASCIICaseRow.holds Tryd.pinned (OpenSpec.ofChange fnRecipientFieldIgnoresASCIICaseWrong)

end Rows
end Go.Proofs.Qxb6602105aDoor
